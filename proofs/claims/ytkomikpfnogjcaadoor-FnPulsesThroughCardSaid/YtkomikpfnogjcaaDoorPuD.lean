/- Whole roots; the last places of a vector. -/
import Derived.Test.YtkomikpfnogjcaaDoorPuC
namespace Go.Proofs.YtkomikpfnogjcaaDoor
open Go Go.Vc
set_option maxRecDepth 100000
set_option maxHeartbeats 4000000

def isq : Nat → Nat → Nat → Nat
  | 0, v, g => if (2 * g + 1) * 2 ^ 0 ≤ v then g + 1 else g
  | s + 1, v, g => if (2 * g + 2 ^ (s + 1)) * 2 ^ (s + 1) ≤ v then isq s (v - (2 * g + 2 ^ (s + 1)) * 2 ^ (s + 1)) (g + 2 ^ (s + 1)) else isq s v g
theorem isqrtW (w0 : World) {v : Nat} (h1 : 1 ≤ v) (h2 : v < 2000) : CallsA Tryd.prog w0 100 [.c (.val (.int .u32 v))] [] fun r H => r = u32 (isq ((len v - 1) / 2) v 0) ∧ H = [] := by
  have hl : len v ≤ 11 := len_le (by omega)
  obtain ⟨R, hR⟩ : ∃ R, R = isq ((len v - 1) / 2) v 0 := ⟨_, rfl⟩
  rw [← hR]
  have hl1 : 1 ≤ len v := by
    unfold len
    rw [if_neg (by omega)]
    omega
  refine callsA_of_ev c100_ ?_
  conv => whnf
  refine Or.inl ?_
  conv => whnf
  refine ⟨fun h => absurd (beq_t h) (by omega), fun _ => ?_⟩
  conv => whnf
  refine (len32 w0 [] (n := v) (by omega)).mono ?_
  rintro _ _ ⟨rfl, rfl⟩
  conv => whnf
  obtain ⟨s0, hs0⟩ : ∃ s0, s0 = (len v - 1) / 2 := ⟨_, rfl⟩
  rw [← hs0] at hR
  have e0 : (IntKind.i64.wrap (((len v : Nat) : Int) - ((1 : Nat) : Int))).fdiv (2 ^ min 1 IntKind.i64.bits) = ((s0 : Nat) : Int) := by
    rw [nsub (by omega), nwrapi (by omega), nshri _ 1 (by omega), hs0]
  have hs5 : s0 ≤ 5 := by omega
  have hp5 : 2 ^ s0 ≤ 32 := Nat.pow_le_pow_right (by omega) hs5
  have hp1 := Nat.two_pow_pos s0
  rw [e0]
  refine ⟨by omega, ?_⟩
  conv => whnf
  rw [nshlv32 1 s0 (by omega), nwrap32 (n := 1 * 2 ^ s0) (by omega), Nat.one_mul]
  refine Or.inl ?_
  conv => whnf
  refine ⟨{x : Nat × Nat × Nat × Nat // isq x.1 x.2.1 x.2.2.1 = R ∧ x.2.2.2 = 2 ^ x.1 ∧ x.1 ≤ 5 ∧ x.2.1 < 2000 ∧ x.2.2.1 + 2 ^ (x.1 + 1) ≤ 64}, fun ⟨⟨s, v, g, b⟩, _⟩ => ⟨[(0, .o (.c (.val (.int .u32 v)))), (3, .o (.c (.val (.int .u32 g)))), (4, .o (.c (.val (.int .i64 s)))), (5, .o (.c (.val (.int .u32 b))))], []⟩, fun x => x.1.1,
    ⟨⟨(s0, v, 0, 2 ^ s0), hR.symm, rfl, hs5, h2, by show 0 + 2 ^ (s0 + 1) ≤ 64; rw [Nat.pow_succ]; omega⟩, [], ⟨rfl, trivial, rfl⟩, rfl, rfl, rfl, rfl, trivial⟩, fun ⟨⟨s, v, g, b⟩, hq, hb, hs, hv, hg⟩ => ?_⟩
  simp only at hq hb hs hv hg
  have hb5 : b ≤ 32 := by rw [hb]; exact Nat.pow_le_pow_right (by omega) hs
  have hb1 : 1 ≤ b := by rw [hb]; exact Nat.two_pow_pos s
  rw [Nat.pow_succ, ← hb] at hg
  have hmul : (2 * g + b) * b ≤ 160 * 32 := Nat.mul_le_mul (by omega) hb5
  conv => whnf
  rw [nshl32 g 1 (by omega), Nat.pow_one, nwrap32 (n := g * 2) (by omega), nadd (g * 2) b, nwrap32 (n := g * 2 + b) (by omega)]
  refine ⟨by omega, ?_⟩
  conv => whnf
  rw [nshlv32 (g * 2 + b) s (by omega), show (g * 2 + b) * 2 ^ s = (2 * g + b) * b by rw [← hb, Nat.mul_comm g 2], nwrap32 (n := (2 * g + b) * b) (by omega)]
  obtain ⟨t, ht⟩ : ∃ t, t = (2 * g + b) * b := ⟨_, rfl⟩
  rw [← ht] at hmul ⊢
  have hstep : ∀ v' g' : Nat, (v' = if t ≤ v then v - t else v) → (g' = if t ≤ v then g + b else g) → (s = 0 → g' = R) ∧ (∀ r, s = r + 1 → isq r v' g' = R) := by
    intro v' g' hv' hg'
    constructor
    · rintro rfl
      rw [show isq 0 v g = if (2 * g + 1) * 2 ^ 0 ≤ v then g + 1 else g from rfl] at hq
      rw [← hq, hg', ht, hb]
    · rintro r rfl
      have hq : (if (2 * g + 2 ^ (r + 1)) * 2 ^ (r + 1) ≤ v then isq r (v - (2 * g + 2 ^ (r + 1)) * 2 ^ (r + 1)) (g + 2 ^ (r + 1)) else isq r v g) = R := hq
      rw [← hb, ← ht] at hq
      rw [← hq, hv', hg']
      split <;> rfl
  refine Or.inr ⟨{x : Nat × Nat // x.1 = (if t ≤ v then v - t else v) ∧ x.2 = if t ≤ v then g + b else g}, fun ⟨⟨v', g'⟩, _⟩ => ⟨[(0, .o (.c (.val (.int .u32 v')))), (3, .o (.c (.val (.int .u32 g')))), (4, .o (.c (.val (.int .i64 s)))), (5, .o (.c (.val (.int .u32 b))))], []⟩, ?_, ?_⟩
  · conv => whnf
    refine ⟨fun c => ?_, fun c => ?_⟩
    · have c : t ≤ v := le_t c
      conv => whnf
      refine ⟨⟨(v - t, g + b), by rw [if_pos c], by rw [if_pos c]⟩, [], ⟨rfl, trivial, rfl⟩, eq_u32 ?_, eq_u32 ?_, rfl, rfl, trivial⟩
      · rw [nsub c, nwrap32 (by omega)]
      · rw [nadd, nwrap32 (by omega)]
    · have c : v < t := le_f c
      conv => whnf
      exact ⟨⟨(v, g), by rw [if_neg (by omega)], by rw [if_neg (by omega)]⟩, [], ⟨rfl, trivial, rfl⟩, rfl, rfl, rfl, rfl, trivial⟩
  rintro ⟨⟨v', g'⟩, hv', hg'⟩
  obtain ⟨k1, k2⟩ := hstep v' g' hv' hg'
  simp only at hv' hg'
  have hv2 : v' < 2000 := by rw [hv']; split <;> omega
  have hg2 : g' ≤ g + b := by rw [hg']; split <;> omega
  conv => whnf
  refine Or.inl ?_
  conv => whnf
  refine ⟨fun c => ?_, fun c => ?_⟩
  · have c : s = 0 := beq_t c
    conv => whnf
    exact Or.inl ⟨u32_of (by rw [k1 c]), rfl⟩
  · have c : s ≠ 0 := beq_f c
    obtain ⟨r, rfl⟩ : ∃ r, s = r + 1 := ⟨s - 1, by omega⟩
    rw [Nat.pow_succ] at hb
    conv => whnf
    refine ⟨⟨(r, v', g', 2 ^ r), k2 r rfl, rfl, by show r ≤ 5; omega, hv2, by show g' + 2 ^ (r + 1) ≤ 64; rw [Nat.pow_succ]; omega⟩, ⟨[], ⟨rfl, trivial, rfl⟩, rfl, rfl, eq_i64 ?_, eq_u32 ?_, trivial⟩, ?_⟩
    · rw [nsub (by omega), nwrapi (by omega), Nat.add_sub_cancel]
    · rw [nshr32 b 1 (by omega), hb, Nat.pow_one, Nat.mul_div_cancel _ (by omega)]
    · show r < r + 1
      omega
theorem isq_fact : ∀ i : Nat, i < 841 → 1 ≤ i → (∀ k : Nat, k < 22 → uu 2 k ≤ i → k ≤ (isq ((len (2 * i - 1) - 1) / 2) (2 * i - 1) 0 + 1) / 2) ∧ (isq ((len (2 * i - 1) - 1) / 2) (2 * i - 1) 0 + 1) / 2 < 22 ∧ uu 2 ((isq ((len (2 * i - 1) - 1) / 2) (2 * i - 1) 0 + 1) / 2) ≤ i := by decide +kernel
end Go.Proofs.YtkomikpfnogjcaaDoor

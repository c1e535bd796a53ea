/- Eighths of bits; sizes; bits by their probability. -/
import Derived.Test.YtkomikpfnogjcaaRcE
namespace Go.Proofs.Ytkomikpfnogjcaa
open Go Go.Vc
set_option maxRecDepth 100000

def fracStep (p : Nat × Nat) : Nat × Nat :=
  let s := p.1 * p.1 / 32768
  let b := s / 65536
  (if b ≠ 0 then s / 2 else s, 2 * p.2 + b)
def fracIter (p : Nat × Nat) : Nat → Nat × Nat
  | 0 => p
  | k + 1 => fracStep (fracIter p k)
def frac (total rng : Nat) : Nat := total * 8 - (fracIter (rng / 2 ^ (len rng - 16), len rng) 3).2
def Dec.frac (d : Dec) : Nat := Go.Proofs.Ytkomikpfnogjcaa.frac d.nb d.rng
theorem fracStep_pos {r l : Nat} (h : r * r / 32768 / 65536 ≠ 0) : (fracStep (r, l)).1 = r * r / 32768 / 2 := if_pos h
theorem fracStep_neg {r l : Nat} (h : r * r / 32768 / 65536 = 0) : (fracStep (r, l)).1 = r * r / 32768 := if_neg (fun hn => hn h)
theorem fracStep_lt {p : Nat × Nat} (h : 32768 ≤ p.1) (h2 : p.1 < 65536) : 32768 ≤ (fracStep p).1 ∧ (fracStep p).1 < 65536 ∧ (fracStep p).2 ≤ 2 * p.2 + 1 ∧ p.1 * p.1 < 4294967296 := by
  have h3 : 32768 * 32768 ≤ p.1 * p.1 := Nat.mul_le_mul h h
  have h4 : p.1 * p.1 ≤ 65535 * 65535 := Nat.mul_le_mul (by omega) (by omega)
  unfold fracStep
  simp only
  generalize p.1 * p.1 = m at *
  refine ⟨?_, ?_, ?_, ?_⟩
  · split <;> omega
  · split <;> omega
  · omega
  · omega
theorem fracIter_lt {p : Nat × Nat} (h : 32768 ≤ p.1) (h2 : p.1 < 65536) (h3 : p.2 ≤ 32) : ∀ k, k ≤ 3 → 32768 ≤ (fracIter p k).1 ∧ (fracIter p k).1 < 65536 ∧ (fracIter p k).2 + 1 ≤ 2 ^ k * 33
  | 0, _ => ⟨h, h2, by simp [fracIter]; omega⟩
  | k + 1, hk => by
    obtain ⟨a, b, c⟩ := fracIter_lt h h2 h3 k (by omega)
    obtain ⟨a', b', c', _⟩ := fracStep_lt a b
    refine ⟨a', b', ?_⟩
    have : (fracIter p (k + 1)).2 ≤ 2 * (fracIter p k).2 + 1 := c'
    rw [Nat.pow_succ]
    omega
theorem top_bits {n : Nat} (h : 8388608 ≤ n) : 32768 ≤ n / 2 ^ (len n - 16) ∧ n / 2 ^ (len n - 16) < 65536 := by
  obtain ⟨k, h1, h2, h3⟩ := len_spec (n := n) (by omega)
  have h4 := le_len (n := n) (k := 23) h
  have e1 : len n - 16 = k - 15 := by omega
  have hp := Nat.two_pow_pos (k - 15)
  rw [e1]
  constructor
  · rw [Nat.le_div_iff_mul_le hp, show (32768 : Nat) = 2 ^ 15 by rfl, ← Nat.pow_add, show 15 + (k - 15) = k by omega]
    exact h2
  · rw [Nat.div_lt_iff_lt_mul hp, show (65536 : Nat) = 2 ^ 16 by rfl, ← Nat.pow_add, show 16 + (k - 15) = k + 1 by omega]
    exact h3

theorem tellFrac (w0 : World) (d : Dec) (hnb : d.nb ≤ 1152921504606846976) (h1 : 8388608 ≤ d.rng) (h2 : d.rng < 4294967296) : CallsA Try.prog w0 50 [.c (.ptr 0 0)] d.H fun r H => r = u64 d.frac ∧ H = d.H := by
  have hl1 := le_len (n := d.rng) (k := 23) h1
  have hl2 := len_le (n := d.rng) (k := 32) h2
  obtain ⟨ht1, ht2⟩ := top_bits h1
  refine callsA_of_ev c50_ ?_
  conv => whnf
  refine (len32 w0 d.H h2).mono ?_
  rintro _ _ ⟨rfl, rfl⟩
  conv => whnf
  refine Or.inl ?_
  conv => whnf
  simp (disch := omega) only [nwrap64]
  refine ⟨fun h3 => ?_, fun h3 => ?_⟩
  · have h3 : ((len d.rng : Nat) : Int) = ((0 : Nat) : Int) := by simpa using h3
    omega
  · conv => whnf
    refine Or.inl ?_
    conv => whnf
    refine ⟨fun h4 => ?_, fun h4 => ?_⟩
    · have h4 := of_decide_eq_true h4
      have h4 : ((len d.rng : Nat) : Int) < ((24 : Nat) : Int) := h4
      omega
    · conv => whnf
      simp (disch := omega) only [nsub, nwrap64]
      refine ⟨by omega, ?_⟩
      conv => whnf
      simp (disch := omega) only [Int.toNat_natCast, nshr32, nwrap64]
      refine Or.inl ?_
      conv => whnf
      refine ⟨_root_.Fin 4, fun ⟨k, _⟩ => ⟨[(0, .o (.c (.ptr 0 0))), (3, .o (.c (.val (.int .u64 ((fracIter (d.rng / 2 ^ (len d.rng - 16), len d.rng) k).2 : Nat))))), (4, .o (.c (.val (.int .u64 ((fracIter (d.rng / 2 ^ (len d.rng - 16), len d.rng) k).1 : Nat))))), (33, .o (.c (.val (.int .i64 (k : Nat)))))], d.H⟩, fun k => 3 - k.1, ⟨0, Dec.embH rfl ⟨rfl, rfl, rfl, rfl, trivial⟩⟩, fun ⟨k, hk⟩ => ?_⟩
      obtain ⟨a, b, c⟩ := fracIter_lt (p := (d.rng / 2 ^ (len d.rng - 16), len d.rng)) ht1 ht2 hl2 k (by omega)
      have hpk : 2 ^ k ≤ 2 ^ 3 := Nat.pow_le_pow_right (by omega) (by omega)
      obtain ⟨a', b', c', d'⟩ := fracStep_lt a b
      conv => whnf
      refine ⟨fun h5 => ?_, fun h5 => ?_⟩
      · have h5 := of_decide_eq_true h5
        have h5 : (k : Int) < ((3 : Nat) : Int) := h5
        conv => whnf
        refine Or.inl ?_
        conv => whnf
        have hs : fracIter (d.rng / 2 ^ (len d.rng - 16), len d.rng) (k + 1) = fracStep (fracIter (d.rng / 2 ^ (len d.rng - 16), len d.rng) k) := rfl
        generalize hq : fracIter (d.rng / 2 ^ (len d.rng - 16), len d.rng) k = q at *
        obtain ⟨r, l⟩ := q
        simp only at a b c d'
        have hb2 : r * r / 32768 / 65536 ≤ 1 := by omega
        simp (disch := omega) only [nmul, nwrap64, nshr64, nadd]
        refine ⟨fun h6 => ?_, fun h6 => ?_⟩
        · have h6 : r * r / 2 ^ 15 / 2 ^ 16 ≠ 0 := by
            intro h0
            rw [h0] at h6
            cases h6
          conv => whnf
          refine ⟨⟨k + 1, by omega⟩, Dec.embH rfl ⟨rfl, ?_, ?_, ?_, trivial⟩, ?_⟩
          · refine eq_u64 ?_
            rw [hs]
            rfl
          · refine eq_u64 ?_
            rw [hs, nshr64 _ _ (by omega), fracStep_pos h6]
          · refine eq_i64 ?_
            rw [nadd, nwrapi (by omega)]
          · show 3 - (k + 1) < 3 - k
            omega
        · have h6 : r * r / 2 ^ 15 / 2 ^ 16 = 0 := bne_f h6
          conv => whnf
          refine ⟨⟨k + 1, by omega⟩, Dec.embH rfl ⟨rfl, ?_, ?_, ?_, trivial⟩, ?_⟩
          · refine eq_u64 ?_
            rw [hs]
            rfl
          · refine eq_u64 ?_
            rw [hs, fracStep_neg h6]
          · refine eq_i64 ?_
            rw [nadd, nwrapi (by omega)]
          · show 3 - (k + 1) < 3 - k
            omega
      · have h5 := of_decide_eq_false h5
        have h5 : ¬ (k : Int) < ((3 : Nat) : Int) := h5
        have hk3 : k = 3 := by omega
        subst hk3
        conv => whnf
        refine Or.inl ?_
        conv => whnf
        simp (disch := omega) only [nmul, nwrap64]
        refine ⟨fun h6 => ?_, fun h6 => ?_⟩
        · have h6 := of_decide_eq_true h6
          conv => whnf
          refine Or.inl ⟨u64_of ?_, rfl⟩
          have h6 : ((d.nb * 8 : Nat) : Int) ≤ ((fracIter (d.rng / 2 ^ (len d.rng - 16), len d.rng) 3).2 : Nat) := h6
          show (0 : Int) = ((d.nb * 8 - (fracIter (d.rng / 2 ^ (len d.rng - 16), len d.rng) 3).2 : Nat) : Int)
          omega
        · have h6 := of_decide_eq_false h6
          conv => whnf
          refine Or.inl ⟨u64_of ?_, rfl⟩
          have h6 : ¬ ((d.nb * 8 : Nat) : Int) ≤ ((fracIter (d.rng / 2 ^ (len d.rng - 16), len d.rng) 3).2 : Nat) := h6
          show _ = ((d.nb * 8 - (fracIter (d.rng / 2 ^ (len d.rng - 16), len d.rng) 3).2 : Nat) : Int)
          rw [nsub (by omega), nwrap64 (by omega)]
end Go.Proofs.Ytkomikpfnogjcaa

/- Whole numbers, Laplace's symbols, sizes, the beginning. -/
import Derived.Test.YtkomikpfnogjcaaRcH
namespace Go.Proofs.Ytkomikpfnogjcaa
open Go Go.Vc
set_option maxRecDepth 100000

def Dec.whole (d : Dec) (n : Nat) : Nat × Bool × Dec :=
  if len (n - 1) ≤ 8 then (d.at n, true, d.uni n)
  else
    let k := len (n - 1) - 8
    let t := (n - 1) / 2 ^ k + 1
    let v := d.at t * 2 ^ k + (d.uni t).raw k
    (if v ≤ n - 1 then v else n - 1, decide (v ≤ n - 1), (d.uni t).rawOn k)
theorem small_of_len {n : Nat} (h : len n ≤ 8) : n < 256 := by
  rcases Nat.lt_or_ge n 256 with h1 | h1
  · exact h1
  · have := le_len (n := n) (k := 8) h1
    omega
theorem top_small {n : Nat} (h : 8 < len n) : n / 2 ^ (len n - 8) < 256 ∧ 1 ≤ n / 2 ^ (len n - 8) := by
  have h0 : n ≠ 0 := by
    intro h0
    subst h0
    simp [len] at h
  obtain ⟨k, h1, h2, h3⟩ := len_spec h0
  have hp := Nat.two_pow_pos (len n - 8)
  constructor
  · rw [Nat.div_lt_iff_lt_mul hp, show (256 : Nat) = 2 ^ 8 by rfl, ← Nat.pow_add, show 8 + (len n - 8) = k + 1 by omega]
    exact h3
  · rw [Nat.le_div_iff_mul_le hp, Nat.one_mul]
    exact Nat.le_trans (Nat.pow_le_pow_right (by omega) (by omega)) h2
theorem Dec.uni_inv {d : Dec} {N n : Nat} (h : d.inv N) (hN : N ≤ 1152921504606846976) (hn : 1 ≤ n) (hn2 : n ≤ 65536) : (d.uni n).inv (N + 24) ∧ (d.uni n).data = d.data ∧ (d.uni n).rb = d.rb :=
  Dec.cut_inv h hN hn hn2 (Nat.le_refl _) (Nat.lt_succ_self _) (d.at_spec h hn hn2).1
theorem Dec.whole_inv {d : Dec} {N n : Nat} (h : d.inv N) (hN : N ≤ 1152921504606846976) (hn : 1 ≤ n) (hn2 : n < 4294967296) : (d.whole n).2.2.inv (N + 48) ∧ (d.whole n).2.2.data = d.data := by
  unfold Dec.whole
  split
  · rename_i hl
    have := small_of_len hl
    obtain ⟨a, b, c⟩ := d.uni_inv h hN hn (by omega)
    exact ⟨⟨a.bytes, a.len, a.br, Nat.le_trans a.nb (by omega), Nat.le_trans a.rb (by omega), a.lo, a.hi, a.val⟩, b⟩
  · rename_i hl
    obtain ⟨h1, h2⟩ := top_small (n := n - 1) (by omega)
    have h3 := len_le (n := n - 1) (k := 32) (by omega)
    obtain ⟨a, b, c⟩ := d.uni_inv (n := (n - 1) / 2 ^ (len (n - 1) - 8) + 1) h hN (by omega) (by omega)
    have := Dec.rawOn_inv (n := len (n - 1) - 8) a
    exact ⟨⟨this.bytes, this.len, this.br, Nat.le_trans this.nb (by omega), Nat.le_trans this.rb (by omega), this.lo, this.hi, this.val⟩, b⟩

theorem uniform (w0 : World) {d : Dec} {N n : Nat} (h : d.inv N) (hN : N ≤ 1152921504606846900) (hn : 2 ≤ n) (hn2 : n < 4294967296) :
    CallsA Try.prog w0 44 [.c (.ptr 0 0), .c (.val (.int .u32 n))] d.H fun r H => r = .t [.c (.val (.int .u32 ((d.whole n).1 : Nat))), .c (.val (.bool (d.whole n).2.1))] ∧ H = (d.whole n).2.2.H := by
  have h32 := len_le (n := n - 1) (k := 32) (by omega)
  refine callsA_of_ev c44_ ?_
  conv => whnf
  refine Or.inl ?_
  conv => whnf
  refine ⟨fun h1 => absurd (beq_t h1) (by omega), fun h1 => ?_⟩
  conv => whnf
  refine Or.inl ?_
  conv => whnf
  refine ⟨fun h2 => absurd (beq_t h2) (by omega), fun h2 => ?_⟩
  conv => whnf
  simp (disch := omega) only [nsub, nwrap32]
  refine (len32 w0 d.H (n := n - 1) (by omega)).mono ?_
  rintro _ _ ⟨rfl, rfl⟩
  conv => whnf
  refine Or.inl ?_
  conv => whnf
  refine ⟨fun h3 => ?_, fun h3 => ?_⟩
  · have h3 : len (n - 1) ≤ 8 := le_t h3
    have := small_of_len h3
    conv => whnf
    refine (uniUpd w0 h (by omega) (n := n) (by omega) (by omega)).mono ?_
    rintro _ _ ⟨rfl, rfl⟩
    conv => whnf
    unfold Dec.whole
    rw [if_pos h3]
    exact Or.inl ⟨rfl, rfl⟩
  · have h3 : 8 < len (n - 1) := le_f h3
    obtain ⟨t1, t2⟩ := top_small (n := n - 1) h3
    conv => whnf
    simp (disch := omega) only [nsub, nwrapi]
    refine ⟨by omega, ?_⟩
    conv => whnf
    simp (disch := omega) only [Int.toNat_natCast, nshr32, nadd, nwrap32]
    refine (uniUpd w0 h (by omega) (n := (n - 1) / 2 ^ (len (n - 1) - 8) + 1) (by omega) (by omega)).mono ?_
    rintro _ _ ⟨rfl, rfl⟩
    have hat := (d.at_spec h (n := (n - 1) / 2 ^ (len (n - 1) - 8) + 1) (by omega) (by omega)).1
    obtain ⟨a, b, c⟩ := d.uni_inv (n := (n - 1) / 2 ^ (len (n - 1) - 8) + 1) h (by omega) (by omega) (by omega)
    have hraw := (d.uni ((n - 1) / 2 ^ (len (n - 1) - 8) + 1)).raw_lt (len (n - 1) - 8)
    have hp24 : 2 ^ (len (n - 1) - 8) ≤ 2 ^ 24 := Nat.pow_le_pow_right (by omega) (by omega)
    have hval : (if d.at ((n - 1) / 2 ^ (len (n - 1) - 8) + 1) * 2 ^ (len (n - 1) - 8) + (d.uni ((n - 1) / 2 ^ (len (n - 1) - 8) + 1)).raw (len (n - 1) - 8) ≤ n - 1 then (d.at ((n - 1) / 2 ^ (len (n - 1) - 8) + 1) * 2 ^ (len (n - 1) - 8) + (d.uni ((n - 1) / 2 ^ (len (n - 1) - 8) + 1)).raw (len (n - 1) - 8)) else n - 1) = (d.whole n).1 ∧ decide (d.at ((n - 1) / 2 ^ (len (n - 1) - 8) + 1) * 2 ^ (len (n - 1) - 8) + (d.uni ((n - 1) / 2 ^ (len (n - 1) - 8) + 1)).raw (len (n - 1) - 8) ≤ n - 1) = (d.whole n).2.1 ∧ (d.uni ((n - 1) / 2 ^ (len (n - 1) - 8) + 1)).rawOn (len (n - 1) - 8) = (d.whole n).2.2 := by
      have hw : d.whole n = _ := if_neg (show ¬ len (n - 1) ≤ 8 by omega)
      rw [hw]
      exact ⟨rfl, rfl, rfl⟩
    have ht256 : (n - 1) / 2 ^ (len (n - 1) - 8) + 1 ≤ 256 := t1
    generalize hk : len (n - 1) - 8 = k at *
    generalize (n - 1) / 2 ^ k + 1 = t at *
    have hmul : d.at t * 2 ^ k ≤ 255 * 2 ^ k := Nat.mul_le_mul_right _ (by omega)
    conv => whnf
    refine ⟨by omega, ?_⟩
    conv => whnf
    simp (disch := omega) only [Int.toNat_natCast, nshl32, nwrap32, nwrap64]
    refine (rawBits w0 (d := d.uni t) a (by omega) (n := k) (by omega)).mono ?_
    rintro _ _ ⟨rfl, rfl⟩
    conv => whnf
    refine ⟨trivial, ?_⟩
    conv => whnf
    simp (disch := omega) only [nor32, nor_add]
    refine Or.inl ?_
    conv => whnf
    obtain ⟨v1, v2, v3⟩ := hval
    refine ⟨fun h4 => ?_, fun h4 => ?_⟩
    · have h4 : d.at t * 2 ^ k + (d.uni t).raw k ≤ n - 1 := le_t h4
      conv => whnf
      rw [if_pos h4] at v1
      rw [decide_eq_true h4] at v2
      rw [← v1, ← v2, ← v3]
      exact Or.inl ⟨rfl, rfl⟩
    · have h4 : n - 1 < d.at t * 2 ^ k + (d.uni t).raw k := le_f h4
      conv => whnf
      rw [if_neg (by omega)] at v1
      rw [decide_eq_false (by omega)] at v2
      rw [← v1, ← v2, ← v3]
      exact Or.inl ⟨rfl, rfl⟩
end Go.Proofs.Ytkomikpfnogjcaa

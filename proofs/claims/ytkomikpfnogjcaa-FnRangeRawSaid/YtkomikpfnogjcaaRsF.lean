/- The coder's round trip: the last bytes lie in the writer's range, and hold its raw bits. -/
import Derived.Test.YtkomikpfnogjcaaRsD
namespace Go.Proofs.Ytkomikpfnogjcaa
open Go Go.Vc
set_option maxRecDepth 100000
set_option linter.unusedVariables false

theorem ceil_bounds {a k : Nat} : a ≤ (a + (2 ^ k - 1)) / 2 ^ k * 2 ^ k ∧ (a + (2 ^ k - 1)) / 2 ^ k * 2 ^ k ≤ a + (2 ^ k - 1) := by
  have hp := Nat.two_pow_pos k
  have h1 := Nat.div_add_mod (a + (2 ^ k - 1)) (2 ^ k)
  have h2 := Nat.mod_lt (a + (2 ^ k - 1)) hp
  rw [Nat.mul_comm] at h1
  omega
theorem ends_spec {e : EncS} {N : Nat} (h : e.inv N) : e.low ≤ e.ends ∧ e.ends + 2 ^ e.cutK ≤ e.low + e.rng := by
  have hbig := h.big
  obtain ⟨q, k1, k2, k3⟩ := len_spec (n := e.rng) (by omega)
  have hq : 1 ≤ q := by
    have := le_len (n := e.rng) (k := 23) (by omega)
    omega
  have hK : e.cutK = if e.low + e.rng ≤ (e.low + (2 ^ q - 1)) / 2 ^ q * 2 ^ q + (2 ^ q - 1) then q - 1 else q := by
    unfold EncS.cutK
    rw [k1]
    rfl
  have hp : 2 ^ q = 2 * 2 ^ (q - 1) := by
    rw [← Nat.pow_succ']
    congr 1
    omega
  have hpos := Nat.two_pow_pos (q - 1)
  unfold EncS.ends
  rw [hK]
  split
  · rename_i c
    have := ceil_bounds (a := e.low) (k := q - 1)
    omega
  · rename_i c
    have := ceil_bounds (a := e.low) (k := q)
    omega

theorem outIter_num {e : EncS} {N : Nat} (h : e.inv N) (hr : e.roomy) : ∀ k, k ≤ e.outs →
    (e.outIter e.ends k).1.fr * 2147483648 + (e.outIter e.ends k).2 = (e.fr * 2147483648 + e.ends) * 256 ^ k ∧ (e.outIter e.ends k).1.cnt = e.cnt + k ∧
      -1 ≤ (e.outIter e.ends k).1.rem ∧ (e.outIter e.ends k).1.rem < 256 ∧ (e.outIter e.ends k).2 + min (2 ^ e.cutK * 256 ^ k) 2147483648 ≤ 4294967295 ∧
      (2 ^ e.cutK * 256 ^ k ≤ 2147483648 → (e.outIter e.ends k).1.room (e.outIter e.ends k).2 (2 ^ e.cutK * 256 ^ k))
  | 0, _ => by
    obtain ⟨h1, h2⟩ := ends_spec h
    have hp := h.ok.plain
    have hlow := h.ok.low
    rw [Nat.pow_zero, Nat.mul_one, Nat.mul_one]
    refine ⟨rfl, rfl, hp.1, hp.2.1, ?_, fun _ hc => ?_⟩
    · show e.ends + _ ≤ _
      omega
    · have := hr hc
      show e.ends + 2 ^ e.cutK ≤ _
      omega
  | k + 1, hk => by
    obtain ⟨a, b, c, d, f, g⟩ := outIter_num h hr k (by omega)
    obtain ⟨q1, q2, _⟩ := EncS.cutK_spec h
    have ho : e.outs = (31 - e.cutK + 7) / 8 := rfl
    have hp : 2 ^ e.cutK * 256 ^ k ≤ 2 ^ 30 := by
      rw [pow256, ← Nat.pow_add]
      exact Nat.pow_le_pow_right (by omega) (by omega)
    have hp1 : 1 ≤ 2 ^ e.cutK * 256 ^ k := Nat.mul_pos (Nat.two_pow_pos _) (Nat.pow_pos (by omega))
    obtain ⟨w1, w2, w3, w4⟩ := carry_win (e := (e.outIter e.ends k).1) (n := (e.outIter e.ends k).2) (m := 2 ^ e.cutK * 256 ^ k) c d (by omega) hp1 (g (by omega))
    have hm : 2 ^ e.cutK * 256 ^ (k + 1) = 2 ^ e.cutK * 256 ^ k * 256 := by rw [Nat.pow_succ, Nat.mul_assoc]
    refine ⟨?_, ?_, w3, w4, ?_, ?_⟩
    · show ((e.outIter e.ends k).1.carry _).fr * 2147483648 + _ = _
      rw [Nat.pow_succ, ← Nat.mul_assoc, ← a]
      exact w1
    · show ((e.outIter e.ends k).1.carry _).cnt = _
      rw [carry_cnt, b]
      omega
    · show (e.outIter e.ends k).2 * 256 % 2147483648 + _ ≤ _
      omega
    · rw [hm]
      exact w2
theorem flush_num {e : EncS} {N : Nat} (h : e.inv N) (hr : e.roomy) : e.flush.fr * 2147483648 = (e.fr * 2147483648 + e.ends) * 256 ^ e.outs ∧ e.flush.cnt = e.cnt + e.outs ∧ -1 ≤ e.flush.rem ∧ e.flush.rem < 256 := by
  obtain ⟨a, b, c, d, f, g⟩ := outIter_num h hr e.outs (Nat.le_refl _)
  obtain ⟨q1, q2, _⟩ := EncS.cutK_spec h
  obtain ⟨h1, h2⟩ := ends_spec h
  have hlow := h.ok.low
  have ho : e.outs = (31 - e.cutK + 7) / 8 := rfl
  refine ⟨?_, b, c, d⟩
  show (e.outIter e.ends e.outs).1.fr * 2147483648 = _
  have hlt : (e.outIter e.ends e.outs).2 < 2147483648 := by
    rcases hk : e.outs with _ | k
    · show e.ends < _
      have hK : e.cutK = 31 := by omega
      rw [hK] at h2
      omega
    · show (e.outIter e.ends k).2 * 256 % 2147483648 < _
      omega
  have hz : (e.outIter e.ends e.outs).2 % 2147483648 = 0 := by
    have e1 : ((e.outIter e.ends e.outs).1.fr * 2147483648 + (e.outIter e.ends e.outs).2) % 2147483648 = (e.outIter e.ends e.outs).2 % 2147483648 := by omega
    have hE : e.ends = (e.low + (2 ^ e.cutK - 1)) / 2 ^ e.cutK * 2 ^ e.cutK := rfl
    rw [← e1, a, hE]
    generalize (e.low + (2 ^ e.cutK - 1)) / 2 ^ e.cutK = z
    have hk : e.cutK + 8 * e.outs - 31 + 31 = e.cutK + 8 * e.outs := by omega
    have e3 : 2 ^ e.cutK * 2 ^ (8 * e.outs) = 2 ^ (e.cutK + 8 * e.outs - 31) * 2147483648 := by
      rw [← Nat.pow_add, ← hk, Nat.pow_add, hk]
    have e4 : (e.fr * 2147483648 + z * 2 ^ e.cutK) * 256 ^ e.outs = (e.fr * 2 ^ (8 * e.outs) + z * 2 ^ (e.cutK + 8 * e.outs - 31)) * 2147483648 := by
      rw [pow256, Nat.add_mul, Nat.add_mul, Nat.mul_assoc z, e3, Nat.mul_right_comm, Nat.mul_assoc z]
    rw [e4]
    exact Nat.mul_mod_left _ _
  have hz0 : (e.outIter e.ends e.outs).2 = 0 := by
    rw [← Nat.mod_eq_of_lt hlt]
    exact hz
  rw [hz0, Nat.add_zero] at a
  exact a
theorem last_num {e : EncS} {N : Nat} (h : e.inv N) (hr : e.roomy) : num e.last.buf * 2147483648 = (e.fr * 2147483648 + e.ends) * 256 ^ e.outs ∧ e.last.buf.length = e.cnt + e.outs := by
  obtain ⟨a, b, c, d⟩ := flush_num h hr
  rw [← a, ← b]
  unfold EncS.last
  split
  · rename_i hc
    have h1 : (e.flush.carry 0).fr = e.flush.fr * 256 + 0 := carry_fr c d (by omega) (fun h => by omega)
    have h2 : (e.flush.carry 0).cnt = e.flush.cnt + 1 := carry_cnt 0
    have h3 : (e.flush.carry 0).rem = 0 := rfl
    have h4 : (e.flush.carry 0).ext = 0 := rfl
    unfold EncS.fr at h1
    unfold EncS.cnt at h2
    rw [h3, h4] at h1 h2
    simp only [Int.le_refl, if_true, Nat.pow_zero, Nat.mul_one, Nat.sub_self, Nat.add_zero, Int.toNat_zero] at h1 h2
    have hf : e.flush.fr = (if 0 ≤ e.flush.rem then num e.flush.buf * 256 + e.flush.rem.toNat else num e.flush.buf) * 256 ^ e.flush.ext + (256 ^ e.flush.ext - 1) := rfl
    have hcn : e.flush.cnt = (if 0 ≤ e.flush.rem then e.flush.buf.length + 1 else e.flush.buf.length) + e.flush.ext := rfl
    rw [← hf] at h1
    rw [← hcn] at h2
    clear a b c d hf hcn h3 h4 hc
    generalize num (e.flush.carry 0).buf = x at *
    generalize (e.flush.carry 0).buf.length = y at *
    generalize e.flush.fr = z at *
    generalize e.flush.cnt = w at *
    constructor <;> omega
  · rename_i hc
    have h1 : ¬ 0 ≤ e.flush.rem := fun x => hc (.inl x)
    have h2 : e.flush.ext = 0 := by omega
    unfold EncS.fr EncS.cnt
    rw [if_neg h1, if_neg h1, h2]
    simp
end Go.Proofs.Ytkomikpfnogjcaa

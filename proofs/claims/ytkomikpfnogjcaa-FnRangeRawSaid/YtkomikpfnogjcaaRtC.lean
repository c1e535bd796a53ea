/- Laplace's shares lie within their total: what the writer reckons. -/
import Derived.Test.YtkomikpfnogjcaaRtB
import Derived.Test.YtkomikpfnogjcaaRoG
namespace Go.Proofs.Ytkomikpfnogjcaa
open Go Go.Vc
set_option maxRecDepth 100000

theorem lapE_tot {decay : Nat} (hd : decay ≤ 16384) : ∀ (n m l f : Nat), 1 ≤ f → (∀ N, l + 2 * tot (16384 - decay) N (f - 1) ≤ 32768) → ∀ N, (lapE decay n (m, l, f)).2.1 + 2 * tot (16384 - decay) N ((lapE decay n (m, l, f)).2.2 - 1) ≤ 32768
  | 0, m, l, f, _, h => h
  | n + 1, m, l, f, hf, h => by
    unfold lapE
    split
    · rename_i h1
      refine lapE_tot hd n (m + 1) (l + 2 * f) ((2 * f - 2) * decay / 32768 + 1) (by omega) fun N => ?_
      have hN := h (N + 1)
      rw [tot_succ, if_neg (by omega)] at hN
      have e : (2 * f - 2) * decay / 32768 + 1 - 1 = phi (16384 - decay) (f - 1) := by
        rw [phi_eq, show 16384 - (16384 - decay) = decay by omega, show 2 * f - 2 = 2 * (f - 1) by omega, Nat.add_sub_cancel, Nat.mul_assoc, show 32768 = 2 * 16384 by decide]
        exact Nat.mul_div_mul_left _ _ (by omega)
      rw [e]
      omega
    · exact h
/-- Where a share is above the least, it lies within the total. -/
theorem lapE_within {fs decay n : Nat} (h1 : 1 ≤ fs) (h2 : fs ≤ 32000) (h3 : decay ≤ 16000) (h4 : 2 ≤ (lapE decay n (1, fs, lapFirst fs decay + 1)).2.2) : (lapE decay n (1, fs, lapFirst fs decay + 1)).2.1 + 2 * (lapE decay n (1, fs, lapFirst fs decay + 1)).2.2 ≤ 32768 := by
  have key := lapE_tot (decay := decay) (by omega) n 1 fs (lapFirst fs decay + 1) (by omega) ?_ 1
  · rw [tot_succ, if_neg (by omega), tot_zero] at key
    omega
  · intro N
    rw [Nat.add_sub_cancel]
    have hle : lapFirst fs decay ≤ 32735 * (16384 - decay) / 32768 := Nat.div_le_div_right (Nat.mul_le_mul_right _ (by omega))
    have hb := lapAll (g := 16384 - decay) (by omega) (by omega) hle N
    have hx : lapFirst fs decay * 32768 ≤ (32736 - fs) * (16384 - decay) := Nat.div_mul_le_self _ _
    generalize lapFirst fs decay = x at *
    generalize tot (16384 - decay) N x = T at *
    have e : (16384 - decay) * (fs + 2 * T) ≤ (16384 - decay) * 32768 := by
      have a1 : (16384 - decay) * (fs + 2 * T) = (16384 - decay) * fs + 2 * ((16384 - decay) * T) := by rw [Nat.mul_add, Nat.mul_left_comm]
      have a2 : (32736 - fs) * (16384 - decay) + (16384 - decay) * fs = (16384 - decay) * 32736 := by rw [Nat.mul_comm, ← Nat.mul_add]; congr 1; omega
      omega
    exact Nat.le_of_mul_le_mul_left e (by omega)

/-- The reference's part and the package's are one, where the number is the one that was meant. -/
theorem lap_same {fs decay : Nat} {v : Int} (h1 : 1 ≤ fs) (h2 : fs ≤ 32000) (h3 : decay ≤ 16000) (h4 : -10000 < v) (h5 : v < 10000) (hm : (rlapP fs decay v).2.2 = v) :
    (rlapP fs decay v).1 = (lapInt fs decay v).1 ∧ (rlapP fs decay v).1 + (rlapP fs decay v).2.1 = (lapInt fs decay v).2 ∧ (lapInt fs decay v).1 < (lapInt fs decay v).2 ∧ (lapInt fs decay v).2 ≤ 32768 := by
  by_cases h0 : v = 0
  · have e1 : rlapP fs decay v = (0, fs, 0) := if_pos h0
    have e2 : lapInt fs decay v = (0, min fs 32768) := if_pos h0
    rw [e1, e2]
    show 0 = 0 ∧ 0 + fs = min fs 32768 ∧ 0 < min fs 32768 ∧ min fs 32768 ≤ 32768
    omega
  · have hlf := lapFirst_lt (fs := fs) (decay := decay)
    have hw := lapE_within (n := v.natAbs - 1) h1 h2 h3
    obtain ⟨a, b, c, d, f1, f2, f3⟩ := lapE_facts decay (by omega) (v.natAbs - 1) 1 fs (lapFirst fs decay + 1) (by omega) (by omega)
    have e1 : rlapP fs decay v = rlapT v (lapE decay (v.natAbs - 1) (1, fs, lapFirst fs decay + 1)) := if_neg h0
    have e2 : lapInt fs decay v = if v < 0 then (min (lapT v.natAbs (lapE decay (v.natAbs - 1) (1, fs, lapFirst fs decay + 1))).1 32768, min ((lapT v.natAbs (lapE decay (v.natAbs - 1) (1, fs, lapFirst fs decay + 1))).1 + (lapT v.natAbs (lapE decay (v.natAbs - 1) (1, fs, lapFirst fs decay + 1))).2) 32768) else (min ((lapT v.natAbs (lapE decay (v.natAbs - 1) (1, fs, lapFirst fs decay + 1))).1 + (lapT v.natAbs (lapE decay (v.natAbs - 1) (1, fs, lapFirst fs decay + 1))).2) 32768, min ((lapT v.natAbs (lapE decay (v.natAbs - 1) (1, fs, lapFirst fs decay + 1))).1 + (lapT v.natAbs (lapE decay (v.natAbs - 1) (1, fs, lapFirst fs decay + 1))).2 + (lapT v.natAbs (lapE decay (v.natAbs - 1) (1, fs, lapFirst fs decay + 1))).2) 32768) := if_neg h0
    rw [e1] at hm ⊢
    rw [e2]
    clear e1 e2
    generalize lapE decay (v.natAbs - 1) (1, fs, lapFirst fs decay + 1) = p at *
    obtain ⟨m, l, f⟩ := p
    simp only at hw a b c d f1 f2 f3
    by_cases hf : f ≤ 1
    · obtain rfl : f = 1 := by omega
      have e3 : rlapT v (m, l, 1) = (((l : Int) + 2 * min ((v.natAbs : Int) - m) ((32768 - (l : Int) - sgn v) / 2 - 1) + 1 + sgn v).toNat, 1, if v < 0 then -(m + min ((v.natAbs : Int) - m) ((32768 - (l : Int) - sgn v) / 2 - 1) + sgn v) - 1 else m + min ((v.natAbs : Int) - m) ((32768 - (l : Int) - sgn v) / 2 - 1) + sgn v) := rfl
      have e4 : lapT v.natAbs (m, l, 1) = (l + 2 * (v.natAbs - m), 1) := by
        unfold lapT
        split
        · rfl
        · rename_i h
          simp only at h
          show (l, 1) = _
          rw [show v.natAbs - m = 0 by omega]
          rfl
      rw [e3] at hm ⊢
      rw [e4]
      unfold sgn at *
      by_cases hv : v < 0
      · rw [if_pos hv] at hm ⊢
        simp only [if_pos hv] at hm ⊢
        omega
      · rw [if_neg hv] at hm ⊢
        simp only [if_neg hv] at hm ⊢
        omega
    · have hm2 := f3 (by omega)
      have hw := hw (by omega)
      have e3 : rlapT v (m, l, f) = (if v < 0 then l else l + f, f, v) := if_neg hf
      have e4 : lapT v.natAbs (m, l, f) = (l, f) := by
        unfold lapT
        rw [if_neg (by simp only; omega)]
      rw [e3, e4]
      by_cases hv : v < 0
      · simp only [if_pos hv]
        omega
      · simp only [if_neg hv]
        omega
end Go.Proofs.Ytkomikpfnogjcaa

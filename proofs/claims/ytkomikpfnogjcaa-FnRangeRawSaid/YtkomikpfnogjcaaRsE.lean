/- The coder's round trip: a number by Laplace's shares. -/
import Derived.Test.YtkomikpfnogjcaaRsD
import Derived.Test.YtkomikpfnogjcaaRtC
namespace Go.Proofs.Ytkomikpfnogjcaa
open Go Go.Vc
set_option maxRecDepth 100000
set_option linter.unusedVariables false

theorem lapGo_next {decay s v l f : Nat} (h : 1 < f) (h2 : l + 2 * f ≤ s) : lapGo decay s s (v, l, f) = lapGo decay s s (v + 1, l + 2 * f, (2 * f - 2) * decay / 32768 + 1) := by
  obtain ⟨t, rfl⟩ : ∃ t, s = t + 1 := ⟨s - 1, by omega⟩
  have e : lapGo decay (t + 1) (t + 1) (v, l, f) = if 1 < f ∧ l + 2 * f ≤ t + 1 then lapGo decay (t + 1) t (v + 1, l + 2 * f, (2 * f - 2) * decay / 32768 + 1) else (v, l, f) := rfl
  rw [e, if_pos ⟨h, h2⟩]
  exact lapGo_stable _ _ _ _ _ _ _ (by omega) (by omega)
theorem lapGo_E {decay s : Nat} (hd : decay ≤ 16384) : ∀ n m l f, 1 ≤ f → f ≤ 16385 → (lapE decay n (m, l, f)).2.1 ≤ s → lapGo decay s s (m, l, f) = lapGo decay s s (lapE decay n (m, l, f))
  | 0, m, l, f, _, _, _ => rfl
  | n + 1, m, l, f, h1, h2, h3 => by
    have hmul := lapMul h2 hd
    have e : lapE decay (n + 1) (m, l, f) = if 1 < f then lapE decay n (m + 1, l + 2 * f, (2 * f - 2) * decay / 32768 + 1) else (m, l, f) := rfl
    rw [e] at h3 ⊢
    by_cases c : 1 < f
    · rw [if_pos c] at h3 ⊢
      have hc := (lapE_facts decay hd n (m + 1) (l + 2 * f) ((2 * f - 2) * decay / 32768 + 1) (by omega) (by omega)).2.2.1
      rw [lapGo_next c (by omega)]
      exact lapGo_E hd n _ _ _ (by omega) (by omega) h3
    · rw [if_neg c]
/-- A place within a number's part tells the number. -/
theorem lap_dec {fs decay s : Nat} {v : Int} (h1 : 1 ≤ fs) (h2 : fs ≤ 32000) (h3 : decay ≤ 16000) (h4 : -10000 < v) (h5 : v < 10000) (hm : (rlapP fs decay v).2.2 = v) (hs1 : (lapInt fs decay v).1 ≤ s) (hs2 : s < (lapInt fs decay v).2) :
    lap fs decay s = (v, (lapInt fs decay v).1, (lapInt fs decay v).2) := by
  by_cases h0 : v = 0
  · have e2 : lapInt fs decay v = (0, min fs 32768) := if_pos h0
    rw [e2] at hs1 hs2 ⊢
    simp only at hs1 hs2
    unfold lap
    rw [if_pos (by omega), h0]
  · have hlf := lapFirst_lt (fs := fs) (decay := decay)
    have hw := lapE_within (n := v.natAbs - 1) h1 h2 h3
    obtain ⟨a, b, c, d, f1, f2, f3⟩ := lapE_facts decay (by omega) (v.natAbs - 1) 1 fs (lapFirst fs decay + 1) (by omega) (by omega)
    have hE := fun hh => lapGo_E (decay := decay) (s := s) (by omega) (v.natAbs - 1) 1 fs (lapFirst fs decay + 1) (by omega) (by omega) hh
    have e1 : rlapP fs decay v = rlapT v (lapE decay (v.natAbs - 1) (1, fs, lapFirst fs decay + 1)) := if_neg h0
    have e2 : lapInt fs decay v = if v < 0 then (min (lapT v.natAbs (lapE decay (v.natAbs - 1) (1, fs, lapFirst fs decay + 1))).1 32768, min ((lapT v.natAbs (lapE decay (v.natAbs - 1) (1, fs, lapFirst fs decay + 1))).1 + (lapT v.natAbs (lapE decay (v.natAbs - 1) (1, fs, lapFirst fs decay + 1))).2) 32768) else (min ((lapT v.natAbs (lapE decay (v.natAbs - 1) (1, fs, lapFirst fs decay + 1))).1 + (lapT v.natAbs (lapE decay (v.natAbs - 1) (1, fs, lapFirst fs decay + 1))).2) 32768, min ((lapT v.natAbs (lapE decay (v.natAbs - 1) (1, fs, lapFirst fs decay + 1))).1 + (lapT v.natAbs (lapE decay (v.natAbs - 1) (1, fs, lapFirst fs decay + 1))).2 + (lapT v.natAbs (lapE decay (v.natAbs - 1) (1, fs, lapFirst fs decay + 1))).2) 32768) := if_neg h0
    rw [e1] at hm
    rw [e2] at hs1 hs2 ⊢
    clear e1 e2
    generalize lapE decay (v.natAbs - 1) (1, fs, lapFirst fs decay + 1) = p at *
    obtain ⟨m, l, f⟩ := p
    simp only at hw a b c d f1 f2 f3 hE
    by_cases hf : f ≤ 1
    · obtain rfl : f = 1 := by omega
      have e3 : rlapT v (m, l, 1) = (((l : Int) + 2 * min ((v.natAbs : Int) - m) ((32768 - (l : Int) - sgn v) / 2 - 1) + 1 + sgn v).toNat, 1, if v < 0 then -(m + min ((v.natAbs : Int) - m) ((32768 - (l : Int) - sgn v) / 2 - 1) + sgn v) - 1 else m + min ((v.natAbs : Int) - m) ((32768 - (l : Int) - sgn v) / 2 - 1) + sgn v) := rfl
      have e4 : lapT v.natAbs (m, l, 1) = (l + 2 * (v.natAbs - m), 1) := by
        unfold lapT
        split
        · rfl
        · rename_i h
          simp only at h
          show (l, 1) = _
          rw [show v.natAbs - m = 0 by omega]
          rfl
      rw [e3] at hm
      rw [e4] at hs1 hs2 ⊢
      unfold sgn at hm
      by_cases hv : v < 0
      · rw [if_pos hv] at hm hs1 hs2 ⊢
        simp only [if_pos hv] at hm hs1 hs2 ⊢
        have hgo := (hE (by omega)).trans (lapGo_done (by omega) s)
        rw [lap_of (x := v.natAbs - m) (by omega) hgo (by rw [if_pos (by omega)]; omega), if_pos (by omega)]
        congr 1
        · omega
        · congr 1
          omega
      · rw [if_neg hv] at hm hs1 hs2 ⊢
        simp only [if_neg hv] at hm hs1 hs2 ⊢
        have hgo := (hE (by omega)).trans (lapGo_done (by omega) s)
        rw [lap_of (x := v.natAbs - m) (by omega) hgo (by rw [if_pos (by omega)]; omega), if_neg (by omega)]
        congr 1
        · omega
        · congr 1
          omega
    · have hm2 := f3 (by omega)
      have hw := hw (by omega)
      have e4 : lapT v.natAbs (m, l, f) = (l, f) := by
        unfold lapT
        rw [if_neg (by simp only; omega)]
      rw [e4] at hs1 hs2 ⊢
      by_cases hv : v < 0
      · simp only [if_pos hv] at hs1 hs2 ⊢
        have hgo := (hE (by omega)).trans (lapGo_done (by omega) s)
        rw [lap_of (x := 0) (by omega) hgo (by rw [if_neg (by omega)]), if_pos (by omega)]
        congr 1
        · omega
        · congr 1
          omega
      · simp only [if_neg hv] at hs1 hs2 ⊢
        have hgo := (hE (by omega)).trans (lapGo_done (by omega) s)
        rw [lap_of (x := 0) (by omega) hgo (by rw [if_neg (by omega)]), if_neg (by omega)]
        congr 1
        · omega
        · congr 1
          omega
end Go.Proofs.Ytkomikpfnogjcaa

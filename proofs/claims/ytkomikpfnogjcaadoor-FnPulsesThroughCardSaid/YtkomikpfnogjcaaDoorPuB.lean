/- Vectors of pulses and their numbers: plain. -/
import Derived.Test.YtkomikpfnogjcaaDoorPuA
namespace Go.Proofs.YtkomikpfnogjcaaDoor
open Go Go.Vc
set_option maxRecDepth 100000

theorem uu_step (m k : Nat) : uu m (k + 1) = uu m k + vv m k := by
  induction m generalizing k with
  | zero =>
    cases k with
    | zero => rfl
    | succ k => rfl
  | succ m ih =>
    show uu m (k + 1) + uu m k + uu (m + 1) k = uu (m + 1) k + vv (m + 1) k
    rw [vv_uu]
    omega
theorem uu_mono (m : Nat) {a b : Nat} (h : a ≤ b) : uu m a ≤ uu m b := by
  induction b with
  | zero => rw [show a = 0 by omega]; exact Nat.le_refl _
  | succ b ih =>
    rcases Nat.lt_or_ge a (b + 1) with c | c
    · exact Nat.le_trans (ih (by omega)) (by rw [uu_step]; omega)
    · rw [show a = b + 1 by omega]
      exact Nat.le_refl _
/-- The greatest number of pulses up to k whose row begins at or ahead of i. -/
def kOf (m : Nat) : Nat → Nat → Nat
  | 0, _ => 0
  | k + 1, i => if uu m (k + 1) ≤ i then k + 1 else kOf m k i
theorem kOf_le (m k i : Nat) : kOf m k i ≤ k := by
  induction k with
  | zero => exact Nat.le_refl _
  | succ k ih =>
    unfold kOf
    split <;> omega
theorem kOf_at (m k i : Nat) : uu m (kOf m k i) ≤ i := by
  induction k with
  | zero => rw [show kOf m 0 i = 0 from rfl, uu_zero]; omega
  | succ k ih =>
    unfold kOf
    split
    · assumption
    · exact ih
theorem kOf_next {m k i : Nat} (h : kOf m k i < k) : i < uu m (kOf m k i + 1) := by
  induction k with
  | zero => omega
  | succ k ih =>
    unfold kOf at h ⊢
    split at h
    · omega
    · rename_i c
      rw [if_neg c]
      rcases Nat.lt_or_ge (kOf m k i) k with d | d
      · exact ih d
      · have := kOf_le m k i
        rw [show kOf m k i = k by omega]
        omega
theorem kOf_eq {m k i q : Nat} (hq : q ≤ k) (h1 : uu m q ≤ i) (h2 : i < uu m (q + 1)) : kOf m k i = q := by
  have h3 := kOf_at m k i
  have h4 := kOf_le m k i
  rcases Nat.lt_trichotomy (kOf m k i) q with c | c | c
  · have := kOf_next (m := m) (k := k) (i := i) (by omega)
    have := uu_mono m (show kOf m k i + 1 ≤ q by omega)
    omega
  · exact c
  · have := uu_mono m (show q + 1 ≤ kOf m k i by omega)
    omega
/-- The sum of amounts. -/
def amt : List Int → Nat
  | [] => 0
  | x :: r => x.natAbs + amt r
/-- A vector's number, where k pulses are left. -/
def codeOf : List Int → Nat → Nat
  | [], _ => 0
  | x :: r, k => uu r.length (k - x.natAbs) + (if x < 0 then uu r.length (k + 1) else 0) + codeOf r (k - x.natAbs)
def sgn (neg : Bool) (x : Nat) : Int := if neg = true then -(x : Int) else x
/-- The vector of a number. -/
def vecOf : Nat → Nat → Nat → List Int
  | 0, _, _ => []
  | m + 1, k, i =>
    let neg := decide (uu m (k + 1) ≤ i)
    let j := if uu m (k + 1) ≤ i then i - uu m (k + 1) else i
    sgn neg (k - kOf m k j) :: vecOf m (kOf m k j) (j - uu m (kOf m k j))
theorem vecOf_len : ∀ (n k i : Nat), (vecOf n k i).length = n
  | 0, _, _ => rfl
  | n + 1, k, i => by
    unfold vecOf
    rw [List.length_cons, vecOf_len n]
theorem natAbs_sgn (neg : Bool) (x : Nat) : (sgn neg x).natAbs = x := by
  unfold sgn
  split <;> omega
theorem code_back : ∀ {v : List Int} {k : Nat}, amt v = k → codeOf v k < vv v.length k ∧ vecOf v.length k (codeOf v k) = v
  | [], k, h => by
    have h : 0 = k := h
    subst h
    exact ⟨by decide, rfl⟩
  | x :: r, k, h => by
    have h : x.natAbs + amt r = k := h
    obtain ⟨h1, h2⟩ := code_back (v := r) (k := k - x.natAbs) (by omega)
    have hs := uu_step r.length (k - x.natAbs)
    have hm := uu_mono r.length (show k - x.natAbs + 1 ≤ k + 1 by omega)
    have hv : vv (r.length + 1) k = uu r.length k + uu r.length (k + 1) := vv_uu _ _
    have hcode : codeOf (x :: r) k = uu r.length (k - x.natAbs) + (if x < 0 then uu r.length (k + 1) else 0) + codeOf r (k - x.natAbs) := rfl
    rw [List.length_cons, hcode, hv]
    generalize codeOf r (k - x.natAbs) = e at *
    by_cases c : x < 0
    · rw [if_pos c]
      have hm2 := uu_mono r.length (show k - x.natAbs + 1 ≤ k by omega)
      refine ⟨by omega, ?_⟩
      unfold vecOf
      have hp : uu r.length (k + 1) ≤ uu r.length (k - x.natAbs) + uu r.length (k + 1) + e := by omega
      rw [if_pos hp, decide_eq_true hp]
      have hj : uu r.length (k - x.natAbs) + uu r.length (k + 1) + e - uu r.length (k + 1) = uu r.length (k - x.natAbs) + e := by omega
      rw [hj]
      simp only
      rw [kOf_eq (q := k - x.natAbs) (by omega) (by omega) (by omega), show uu r.length (k - x.natAbs) + e - uu r.length (k - x.natAbs) = e by omega, h2]
      congr 1
      unfold sgn
      rw [if_pos rfl]
      omega
    · rw [if_neg c]
      refine ⟨by omega, ?_⟩
      unfold vecOf
      have hp : ¬ uu r.length (k + 1) ≤ uu r.length (k - x.natAbs) + 0 + e := by omega
      rw [if_neg hp, decide_eq_false hp]
      simp only
      rw [kOf_eq (q := k - x.natAbs) (by omega) (by omega) (by omega), show uu r.length (k - x.natAbs) + 0 + e - uu r.length (k - x.natAbs) = e by omega, h2]
      congr 1
      unfold sgn
      rw [if_neg (by decide)]
      omega
theorem vec_back : ∀ {n k i : Nat}, i < vv n k → amt (vecOf n k i) = k ∧ codeOf (vecOf n k i) k = i
  | 0, k, i, h => by
    cases k with
    | zero =>
      have h : i < 1 := h
      exact ⟨rfl, by rw [show i = 0 by omega]; rfl⟩
    | succ k => exact absurd (show i < 0 from h) (by omega)
  | m + 1, k, i, h => by
    rw [vv_uu] at h
    obtain ⟨j, hj⟩ : ∃ j, j = if uu m (k + 1) ≤ i then i - uu m (k + 1) else i := ⟨_, rfl⟩
    have hv : vecOf (m + 1) k i = sgn (decide (uu m (k + 1) ≤ i)) (k - kOf m k j) :: vecOf m (kOf m k j) (j - uu m (kOf m k j)) := by rw [hj]; rfl
    rw [hv]
    clear hv
    have h1 := kOf_le m k j
    have h2 := kOf_at m k j
    have h3 : j < uu m (kOf m k j + 1) := by
      rcases Nat.lt_or_ge (kOf m k j) k with c | c
      · exact kOf_next c
      · rw [show kOf m k j = k by omega] at h2 ⊢
        split at hj
        · omega
        · omega
    have hneg : uu m (k + 1) ≤ i → kOf m k j < k := by
      intro c
      rcases Nat.lt_or_ge (kOf m k j) k with d | d
      · exact d
      · rw [show kOf m k j = k by omega] at h2
        rw [if_pos c] at hj
        omega
    have hs := uu_step m (kOf m k j)
    generalize kOf m k j = q at *
    obtain ⟨g1, g2⟩ := vec_back (n := m) (k := q) (i := j - uu m q) (by omega)
    constructor
    · show (sgn _ _).natAbs + amt _ = k
      rw [natAbs_sgn, g1]
      omega
    · show uu (vecOf m q (j - uu m q)).length (k - (sgn _ _).natAbs) + _ + codeOf _ (k - (sgn _ _).natAbs) = i
      rw [natAbs_sgn, show k - (k - q) = q by omega, g2, vecOf_len]
      by_cases c : uu m (k + 1) ≤ i
      · have := hneg c
        rw [if_pos c] at hj
        rw [decide_eq_true c, if_pos (by unfold sgn; rw [if_pos rfl]; omega)]
        omega
      · rw [if_neg c] at hj
        rw [decide_eq_false c, if_neg (by unfold sgn; rw [if_neg (by decide)]; omega)]
        omega
end Go.Proofs.YtkomikpfnogjcaaDoor

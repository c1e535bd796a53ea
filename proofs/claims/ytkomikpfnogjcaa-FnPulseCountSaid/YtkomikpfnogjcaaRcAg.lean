/- How many vectors of pulses there are: the plain law. -/
import Derived.Test.YtkomikpfnogjcaaRcAd
namespace Go.Proofs.Ytkomikpfnogjcaa

def vvRow (f : Nat → Nat) : Nat → Nat
  | 0 => 1
  | k + 1 => f (k + 1) + vvRow f k + f k
/-- Vectors of n places that have together k pulses. -/
def vv : Nat → Nat → Nat
  | 0 => fun | 0 => 1 | _ + 1 => 0
  | n + 1 => vvRow (vv n)
def uuRow (f : Nat → Nat) : Nat → Nat
  | 0 => 0
  | k + 1 => f (k + 1) + f k + uuRow f k
/-- The package's own row: of n + 1 places. -/
def uu : Nat → Nat → Nat
  | 0 => fun | 0 => 0 | _ + 1 => 1
  | n + 1 => uuRow (uu n)
theorem uu_zero (n : Nat) : uu n 0 = 0 := by cases n <;> rfl
theorem uu_one (n : Nat) : uu n 1 = 1 := by
  induction n with
  | zero => rfl
  | succ n ih =>
    show uu n 1 + uu n 0 + uu (n + 1) 0 = 1
    rw [ih, uu_zero, uu_zero]
theorem vv_uu (n k : Nat) : vv (n + 1) k = uu n k + uu n (k + 1) := by
  induction n generalizing k with
  | zero =>
    induction k with
    | zero => rfl
    | succ k ih =>
      show vv 0 (k + 1) + vv 1 k + vv 0 k = 1 + 1
      rw [ih]
      cases k with
      | zero => rfl
      | succ k => rfl
  | succ n ih =>
    induction k with
    | zero =>
      show 1 = uu (n + 1) 0 + uu (n + 1) 1
      rw [uu_zero, uu_one]
    | succ k ihk =>
      show vv (n + 1) (k + 1) + vv (n + 2) k + vv (n + 1) k = (uu n (k + 1) + uu n k + uu (n + 1) k) + (uu n (k + 1 + 1) + uu n (k + 1) + uu (n + 1) (k + 1))
      rw [ihk, ih, ih]
      omega
theorem uu_two (k : Nat) : uu 1 (k + 1) = 2 * k + 1 := by
  induction k with
  | zero => rfl
  | succ k ih =>
    show uu 0 (k + 2) + uu 0 (k + 1) + uu 1 (k + 1) = _
    rw [ih]
    show 1 + 1 + (2 * k + 1) = _
    omega
theorem vv_zero (n : Nat) : vv n 0 = 1 := by cases n <;> rfl
/-- A count, but no more than a bound. -/
def vcap (n k : Nat) : Nat := min (vv n k) 1099511627776
theorem vcap_step (n k : Nat) : vcap (n + 1) (k + 1) = min (vcap n (k + 1) + vcap (n + 1) k + vcap n k) 1099511627776 := by
  show min (vv n (k + 1) + vv (n + 1) k + vv n k) 1099511627776 = _
  unfold vcap
  omega
theorem vcap_le (n k : Nat) : vcap n k ≤ 1099511627776 := Nat.min_le_right _ _
theorem vcap_zero (n : Nat) : vcap n 0 = 1 := by
  unfold vcap
  rw [vv_zero]
  rfl
/-- A row of numbers. -/
def tabl (m : Nat) (f : Nat → Nat) : List Int := (List.range m).map fun i => (f i : Int)
theorem tabl_len (m : Nat) (f : Nat → Nat) : (tabl m f).length = m := by
  unfold tabl
  rw [List.length_map, List.length_range]
theorem tabl_get {m : Nat} {f : Nat → Nat} {i : Nat} (h : i < m) : (tabl m f)[i]? = some (f i : Int) := by
  unfold tabl
  rw [List.getElem?_map, List.getElem?_range h]
  rfl
theorem tabl_ext {m : Nat} {f g : Nat → Nat} (h : ∀ i, i < m → f i = g i) : tabl m f = tabl m g := by
  unfold tabl
  refine List.map_congr_left fun i hi => ?_
  rw [h i (List.mem_range.1 hi)]
theorem tabl_set {m : Nat} {f : Nat → Nat} {i v : Nat} : (tabl m f).set i (v : Int) = tabl m (fun j => if j = i then v else f j) := by
  apply List.ext_getElem?
  intro j
  rw [List.getElem?_set]
  rcases Nat.lt_or_ge j m with h | h
  · rw [tabl_get h, tabl_get h, tabl_len]
    by_cases hij : i = j
    · subst hij
      rw [if_pos rfl, if_pos h, if_pos rfl]
    · rw [if_neg hij, if_neg (fun e => hij e.symm)]
  · have e1 : ∀ g, (tabl m g)[j]? = none := fun g => List.getElem?_eq_none (by rw [tabl_len]; exact h)
    rw [e1, e1, tabl_len]
    split
    · rw [if_neg (by omega)]
    · rfl
end Go.Proofs.Ytkomikpfnogjcaa

/- Packets: what bytes tell, in plain numbers. -/
import Derived.Test.YtknfakehijoogaaDoorVmB
namespace Go.Proofs.YtknfakehijoogaaDoor
open Go Go.Vc
set_option maxRecDepth 100000

/-- A byte of a string; behind its end 0. -/
def byt (b : ByteArray) (i : Nat) : Nat := (b.data.toList.getD i 0).toNat
theorem byt_lt (b : ByteArray) (i : Nat) : byt b i < 256 := UInt8.toNat_lt _
theorem byt_vec {b : ByteArray} {i : Nat} (h : i < b.size) : (bytesOf b)[i]? = some (byt b i : Int) := by
  have h' : i < b.data.toList.length := by rw [Array.length_toList]; exact h
  unfold bytesOf byt
  rw [List.getElem?_map, List.getElem?_eq_getElem h', List.getD_eq_getElem?_getD, List.getElem?_eq_getElem h']
  rfl
theorem byt_str {b : ByteArray} {i : Nat} (h : i < b.size) : ∃ y : UInt8, b[i]? = some y ∧ y.toNat = byt b i := by
  have h' : i < b.data.toList.length := by rw [Array.length_toList]; exact h
  refine ⟨b[i], by rw [getElem?_pos b i h], ?_⟩
  unfold byt
  rw [List.getD_eq_getElem?_getD, List.getElem?_eq_getElem h']
  rfl
/-- A part of a string. -/
def sub (b : ByteArray) (p e : Nat) : ByteArray := b.extract p e
theorem sub_size {b : ByteArray} {p e : Nat} (h : e ≤ b.size) : (sub b p e).size = e - p := by
  unfold sub
  rw [ByteArray.size_extract]
  omega
theorem sub_sub {b : ByteArray} {p e i j : Nat} (h : e ≤ b.size) (hj : p + j ≤ e) : (sub b p e).extract i j = sub b (p + i) (p + j) := by
  unfold sub
  rw [ByteArray.extract_extract]
  congr 1
  omega
theorem sub_all (b : ByteArray) : sub b 0 b.size = b := by
  unfold sub
  exact ByteArray.extract_zero_size
theorem sub_str {b : ByteArray} {p e i : Nat} (h : e ≤ b.size) (hi : p + i < e) : ∃ y : UInt8, (sub b p e)[i]? = some y ∧ y.toNat = byt b (p + i) := by
  obtain ⟨y, h1, h2⟩ := byt_str (b := sub b p e) (i := i) (by rw [sub_size h]; omega)
  refine ⟨y, h1, ?_⟩
  rw [h2]
  unfold byt sub
  rw [ByteArray.data_extract, Array.toList_extract, List.extract_eq_take_drop, List.getD_eq_getElem?_getD, List.getD_eq_getElem?_getD, List.getElem?_take, if_pos (by omega), List.getElem?_drop]
/-- The bytes of a part, as a string. -/
theorem strOf_data (l : List Int) : ∀ r : ByteArray, (l.foldl (fun r n => r.push (UInt8.ofNat n.toNat)) r).data.toList = r.data.toList ++ l.map fun n => UInt8.ofNat n.toNat := by
  induction l with
  | nil => intro r; simp
  | cons x t ih =>
    intro r
    rw [List.foldl_cons, ih, ByteArray.data_push, Array.toList_push, List.append_assoc]
    rfl
theorem strOf_sub {b : ByteArray} {o n : Nat} (h : o + n ≤ b.size) : strOf (((bytesOf b).drop o).take n) = sub b o (o + n) := by
  apply ByteArray.ext
  apply Array.ext'
  show (List.foldl _ ByteArray.empty _).data.toList = _
  rw [strOf_data]
  unfold sub bytesOf
  rw [ByteArray.data_extract, Array.toList_extract, List.extract_eq_take_drop, ← List.map_drop, ← List.map_take, List.map_map, show o + n - o = n by omega]
  show [] ++ _ = _
  rw [List.nil_append]
  refine (List.map_congr_left (g := id) fun x hx => ?_).trans (List.map_id _)
  show UInt8.ofNat ((x.toNat : Int)).toNat = x
  rw [Int.toNat_natCast, UInt8.ofNat_toNat]

/-- A frame's length at a place, and how many bytes tell it. -/
def flen (b : ByteArray) (e p : Nat) : Option (Nat × Nat) :=
  if e ≤ p then none
  else if byt b p < 252 then some (byt b p, 1)
  else if e ≤ p + 1 then none
  else some (byt b p + 4 * byt b (p + 1), 2)
/-- So many lengths, one behind the other. -/
def flens (b : ByteArray) (e p : Nat) : Nat → Option (List Nat × Nat)
  | 0 => some ([], p)
  | k + 1 => match flens b e p k with
    | none => none
    | some (l, q) => match flen b e q with
      | none => none
      | some (n, r) => some (l ++ [n], q + r)
/-- How many bytes of 255 stand ahead of the last byte of padding's length. -/
def pads (b : ByteArray) : Nat → Nat → Option Nat
  | 0, _ => none
  | f + 1, k => if b.size ≤ 2 + k then none else if byt b (2 + k) = 255 then pads b f (k + 1) else some k
/-- Where the frames begin and end, behind padding. -/
def padded (b : ByteArray) : Option (Nat × Nat) :=
  match pads b b.size 0 with
  | none => none
  | some k => if b.size - (3 + k) < 254 * k + byt b (2 + k) then none else some (3 + k, b.size - (254 * k + byt b (2 + k)))
def part1 (b : ByteArray) : Option (Nat × Nat) := if byt b 1 / 64 % 2 = 1 then padded b else some (2, b.size)
/-- A frame's length in 48,000ths of a second. -/
def dura (n : Nat) : Nat := [480, 960, 1920, 2880, 480, 960, 1920, 2880, 480, 960, 1920, 2880, 480, 960, 480, 960, 120, 240, 480, 960, 120, 240, 480, 960, 120, 240, 480, 960, 120, 240, 480, 960].getD n 0
/-- Frames of one length. -/
def evenly (p n m : Nat) : List (Nat × Nat) := (List.range m).map fun i => (p + i * n, n)
/-- Frames of these lengths. -/
def cuts (p : Nat) : List Nat → List (Nat × Nat)
  | [] => []
  | n :: r => (p, n) :: cuts (p + n) r
def total (l : List Nat) : Nat := l.foldl (· + ·) 0
/-- A packet's frames, as places and lengths; none: refused. -/
def frames (b : ByteArray) : Option (List (Nat × Nat)) :=
  if b.size = 0 then none
  else if byt b 0 % 4 = 0 then (if 1275 < b.size - 1 then none else some [(1, b.size - 1)])
  else if byt b 0 % 4 = 1 then (if (b.size - 1) % 2 = 1 then none else if 1275 < (b.size - 1) / 2 then none else some [(1, (b.size - 1) / 2), (1 + (b.size - 1) / 2, (b.size - 1) / 2)])
  else if byt b 0 % 4 = 2 then match flen b b.size 1 with
    | none => none
    | some (n, r) => if b.size < 1 + r + n then none else if 1275 < b.size - (1 + r + n) then none else some [(1 + r, n), (1 + r + n, b.size - (1 + r + n))]
  else if b.size < 2 then none
  else if byt b 1 % 64 = 0 then none
  else if 5760 < byt b 1 % 64 * dura (byt b 0 / 8) then none
  else match part1 b with
    | none => none
    | some (p, e) =>
      if byt b 1 / 128 = 0 then (if (e - p) % (byt b 1 % 64) ≠ 0 then none else if 1275 < (e - p) / (byt b 1 % 64) then none else some (evenly p ((e - p) / (byt b 1 % 64)) (byt b 1 % 64)))
      else match flens b e p (byt b 1 % 64 - 1) with
        | none => none
        | some (l, q) => if e - q < total l then none else if 1275 < e - q - total l then none else some (cuts q (l ++ [e - q - total l]))
end Go.Proofs.YtknfakehijoogaaDoor

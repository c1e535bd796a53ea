/- The coder's numbers: what the writer has put out, as one number. -/
import Derived.Test.YtkomikpfnogjcaaRnI
namespace Go.Proofs.Ytkomikpfnogjcaa
open Go Go.Vc
set_option maxRecDepth 100000

/-- Bytes as a number, the first one greatest. -/
def num (l : List Int) : Nat := l.foldl (fun r x => r * 256 + x.toNat) 0
theorem num_fold (l : List Int) : ∀ r : Nat, l.foldl (fun r x => r * 256 + x.toNat) r = r * 256 ^ l.length + num l := by
  induction l with
  | nil => intro r; simp [num]
  | cons x t ih =>
    intro r
    unfold num
    rw [List.foldl_cons, List.foldl_cons, ih, ih, List.length_cons, Nat.pow_succ]
    simp only [Nat.zero_mul, Nat.zero_add, Nat.add_mul]
    rw [Nat.mul_comm (256 ^ t.length) 256, Nat.mul_assoc, Nat.add_assoc]
theorem num_append (a b : List Int) : num (a ++ b) = num a * 256 ^ b.length + num b := by
  show (a ++ b).foldl _ 0 = _
  rw [List.foldl_append, num_fold]
  rfl
theorem num_one (x : Int) : num [x] = x.toNat := by simp [num]
theorem num_snoc (a : List Int) (x : Int) : num (a ++ [x]) = num a * 256 + x.toNat := by
  rw [num_append, num_one]
  rfl
theorem num_nil : num [] = 0 := rfl
theorem num_ff (k : Nat) : num (List.replicate k 255) + 1 = 256 ^ k := by
  induction k with
  | zero => rfl
  | succ k ih =>
    rw [List.replicate_succ', num_snoc, Nat.pow_succ]
    show num (List.replicate k 255) * 256 + 255 + 1 = _
    omega
theorem num_zero (k : Nat) : num (List.replicate k 0) = 0 := by
  induction k with
  | zero => rfl
  | succ k ih =>
    rw [List.replicate_succ', num_snoc, ih]
    rfl
theorem num_lt {l : List Int} (h : ∀ x ∈ l, 0 ≤ x ∧ x < 256) : num l < 256 ^ l.length := by
  induction l with
  | nil => simp [num]
  | cons x t ih =>
    have h1 := h x (List.mem_cons_self ..)
    have h2 := ih fun y hy => h y (List.mem_cons_of_mem _ hy)
    show num ([x] ++ t) < _
    rw [num_append, num_one, List.length_cons, Nat.pow_succ]
    have h3 : x.toNat * 256 ^ t.length ≤ 255 * 256 ^ t.length := Nat.mul_le_mul_right _ (by omega)
    omega

/-- The bytes that are out or wait, as a number; how many they are. -/
def EncS.fr (e : EncS) : Nat := (if 0 ≤ e.rem then num e.buf * 256 + e.rem.toNat else num e.buf) * 256 ^ e.ext + (256 ^ e.ext - 1)
def EncS.cnt (e : EncS) : Nat := (if 0 ≤ e.rem then e.buf.length + 1 else e.buf.length) + e.ext
/-- There is room for a carry. -/
def EncS.room (e : EncS) (n m : Nat) : Prop := e.rem < 0 ∨ e.rem = 255 → n + m ≤ 2147483648

theorem carry_cnt {e : EncS} (v : Nat) : (e.carry v).cnt = e.cnt + 1 := by
  unfold EncS.carry EncS.cnt
  split
  · show (if 0 ≤ e.rem then e.buf.length + 1 else e.buf.length) + (e.ext + 1) = _
    omega
  · show (if 0 ≤ ((v % 256 : Nat) : Int) then ((e.put1 v).put2 v e.ext).buf.length + 1 else _) + 0 = _
    rw [if_pos (by omega), put2_len]
    unfold EncS.put1
    split
    · show (e.buf ++ [_]).length + e.ext + 1 + 0 = _
      rw [List.length_append, List.length_singleton]
    · omega
theorem carry_fr {e : EncS} {v : Nat} (hr1 : -1 ≤ e.rem) (hr2 : e.rem < 256) (hv : v ≤ 511) (h : 256 ≤ v → 0 ≤ e.rem ∧ e.rem ≤ 254) : (e.carry v).fr = e.fr * 256 + v := by
  unfold EncS.carry
  have hp : 1 ≤ 256 ^ e.ext := Nat.one_le_pow _ _ (by omega)
  by_cases h5 : v = 255
  · rw [if_pos h5]
    unfold EncS.fr
    show (if 0 ≤ e.rem then num e.buf * 256 + e.rem.toNat else num e.buf) * 256 ^ (e.ext + 1) + (256 ^ (e.ext + 1) - 1) = _
    generalize (if 0 ≤ e.rem then num e.buf * 256 + e.rem.toNat else num e.buf) = X
    rw [Nat.pow_succ, Nat.add_mul, Nat.mul_assoc]
    generalize 256 ^ e.ext = q at *
    generalize X * (q * 256) = y
    omega
  · rw [if_neg h5]
    have key : num ((e.put1 v).put2 v e.ext).buf = e.fr + v / 256 := by
      unfold EncS.put2
      show num ((e.put1 v).buf ++ List.replicate e.ext _) = _
      rw [num_append, List.length_replicate]
      by_cases hr : 0 ≤ e.rem
      · have hb : (e.put1 v).buf = e.buf ++ [(e.rem + (v / 256 : Nat)) % 256] := by
          unfold EncS.put1
          rw [if_pos hr]
        rw [hb, num_snoc]
        unfold EncS.fr
        rw [if_pos hr]
        have hf := num_ff e.ext
        rcases Nat.lt_or_ge v 256 with hc | hc
        · have h0 : v / 256 = 0 := by omega
          rw [h0]
          have e1 : ((e.rem + ((0 : Nat) : Int)) % 256).toNat = e.rem.toNat := by omega
          rw [e1]
          show _ + num (List.replicate e.ext 255) = _
          omega
        · have h0 : v / 256 = 1 := by omega
          obtain ⟨g1, g2⟩ := h hc
          rw [h0]
          have e1 : ((e.rem + ((1 : Nat) : Int)) % 256).toNat = e.rem.toNat + 1 := by omega
          rw [e1]
          show _ + num (List.replicate e.ext 0) = _
          rw [num_zero, ← Nat.add_assoc, Nat.add_mul _ 1]
          omega
      · have hb : (e.put1 v).buf = e.buf := by
          unfold EncS.put1
          rw [if_neg hr]
        have h0 : v / 256 = 0 := by
          rcases Nat.lt_or_ge v 256 with hc | hc
          · omega
          · exact absurd (h hc).1 hr
        rw [hb, h0]
        unfold EncS.fr
        rw [if_neg hr]
        have hf := num_ff e.ext
        show _ + num (List.replicate e.ext 255) = _
        omega
    unfold EncS.fr at key ⊢
    show (if 0 ≤ ((v % 256 : Nat) : Int) then num ((e.put1 v).put2 v e.ext).buf * 256 + (((v % 256 : Nat) : Int)).toNat else _) * 256 ^ 0 + (256 ^ 0 - 1) = _
    rw [if_pos (by omega), key, Int.toNat_natCast]
    show (_ * 256 + v % 256) * 1 + (1 - 1) = _
    omega
/-- One byte put out of a window. -/
theorem carry_win {e : EncS} {n m : Nat} (hr1 : -1 ≤ e.rem) (hr2 : e.rem < 256) (hnm : n + m ≤ 4294967295) (hm : 1 ≤ m) (h : e.room n m) :
    (e.carry (n / 8388608)).fr * 2147483648 + n * 256 % 2147483648 = (e.fr * 2147483648 + n) * 256 ∧ (m * 256 ≤ 2147483648 → (e.carry (n / 8388608)).room (n * 256 % 2147483648) (m * 256)) ∧ -1 ≤ (e.carry (n / 8388608)).rem ∧ (e.carry (n / 8388608)).rem < 256 := by
  refine ⟨?_, fun hm2 => ?_, ?_⟩
  · rw [carry_fr hr1 hr2 (by omega) ?_]
    · omega
    · intro hv
      refine ⟨?_, ?_⟩
      · rcases Int.lt_or_le e.rem 0 with c | c
        · have := h (.inl c); omega
        · exact c
      · rcases Int.lt_or_le 254 e.rem with c | c
        · have := h (.inr (by omega)); omega
        · exact c
  · unfold EncS.room
    unfold EncS.carry
    split
    · intro hc
      have := h hc
      omega
    · intro hc
      have hc : ((n / 8388608 % 256 : Nat) : Int) < 0 ∨ ((n / 8388608 % 256 : Nat) : Int) = 255 := hc
      omega
  · unfold EncS.carry
    split
    · exact ⟨hr1, hr2⟩
    · show -1 ≤ ((n / 8388608 % 256 : Nat) : Int) ∧ ((n / 8388608 % 256 : Nat) : Int) < 256
      omega
end Go.Proofs.Ytkomikpfnogjcaa

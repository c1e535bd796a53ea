/- The coder's numbers: what the reader takes out of its bytes. -/
import Derived.Test.YtkomikpfnogjcaaRsA
import Derived.Test.YtkomikpfnogjcaaRmB
namespace Go.Proofs.Ytkomikpfnogjcaa
open Go Go.Vc
set_option maxRecDepth 100000

/-- So many bits from the front; behind the end nothing but 0. -/
def cod (B : List Int) (p : Nat) : Nat := num B * 2 ^ p / 2 ^ (8 * B.length)
theorem shift_eq {X a b c d : Nat} (h : a + d = b + c) : X * 2 ^ a / 2 ^ b = X * 2 ^ c / 2 ^ d := by
  have h1 : X * 2 ^ a / 2 ^ b = X * 2 ^ a * 2 ^ d / (2 ^ b * 2 ^ d) := (Nat.mul_div_mul_right _ _ (Nat.two_pow_pos d)).symm
  have h2 : X * 2 ^ c / 2 ^ d = X * 2 ^ c * 2 ^ b / (2 ^ d * 2 ^ b) := (Nat.mul_div_mul_right _ _ (Nat.two_pow_pos b)).symm
  rw [h1, h2, Nat.mul_assoc, Nat.mul_assoc, ← Nat.pow_add, ← Nat.pow_add, ← Nat.pow_add, ← Nat.pow_add, h, Nat.add_comm b d, Nat.add_comm b c]
theorem cod_next (B : List Int) (p k : Nat) : cod B p = cod B (p + k) / 2 ^ k := by
  unfold cod
  rw [Nat.div_div_eq_div_mul, ← Nat.pow_add]
  exact shift_eq (by omega)
theorem cod_step (B : List Int) (p k : Nat) : cod B (p + k) = cod B p * 2 ^ k + cod B (p + k) % 2 ^ k := by
  rw [cod_next B p k]
  have := Nat.div_add_mod (cod B (p + k)) (2 ^ k)
  rw [Nat.mul_comm] at this
  exact this.symm
theorem cod_lt {B : List Int} (h : ∀ x ∈ B, 0 ≤ x ∧ x < 256) (p : Nat) : cod B p < 2 ^ p := by
  have h1 := num_lt h
  have h2 : (256 : Nat) ^ B.length = 2 ^ (8 * B.length) := by rw [Nat.pow_mul]
  rw [h2] at h1
  unfold cod
  rw [Nat.div_lt_iff_lt_mul (Nat.two_pow_pos _), Nat.mul_comm]
  exact (Nat.mul_lt_mul_left (Nat.two_pow_pos p)).2 h1
theorem cod_out {B : List Int} {p k : Nat} (h : 8 * B.length ≤ p) : cod B (p + k) % 2 ^ k = 0 := by
  unfold cod
  rw [show p + k = 8 * B.length + (p + k - 8 * B.length) by omega, Nat.pow_add, ← Nat.mul_assoc, Nat.mul_right_comm, Nat.mul_div_cancel _ (Nat.two_pow_pos _)]
  rw [show p + k - 8 * B.length = (p - 8 * B.length) + k by omega, Nat.pow_add, ← Nat.mul_assoc]
  exact Nat.mul_mod_left _ _

theorem get_num {l : List Int} (h : ∀ x ∈ l, 0 ≤ x ∧ x < 256) {i : Nat} (hi : i < l.length) : (l.getD i 0).toNat = num l / 256 ^ (l.length - 1 - i) % 256 := by
  have hs : l = l.take i ++ [l[i]] ++ l.drop (i + 1) := by
    rw [List.append_assoc, List.singleton_append, ← List.drop_eq_getElem_cons hi, List.take_append_drop]
  have hn : num l = (num (l.take i) * 256 + l[i].toNat) * 256 ^ (l.length - 1 - i) + num (l.drop (i + 1)) := by
    rw [show num l = num (l.take i ++ [l[i]] ++ l.drop (i + 1)) by rw [← hs], num_append, num_snoc, List.length_drop, show l.length - (i + 1) = l.length - 1 - i by omega]
  have hd : num (l.drop (i + 1)) < 256 ^ (l.length - 1 - i) := by
    have := num_lt (l := l.drop (i + 1)) fun x hx => h x (List.mem_of_mem_drop hx)
    rwa [List.length_drop, show l.length - (i + 1) = l.length - 1 - i by omega] at this
  have hx := h _ (List.getElem_mem hi)
  rw [hn, Nat.mul_comm, Nat.mul_add_div (Nat.pow_pos (by omega)), Nat.div_eq_of_lt hd, Nat.add_zero]
  rw [List.getD_eq_getElem?_getD, List.getElem?_eq_getElem hi, Option.getD_some]
  omega
theorem two_num {d : Dec} (h : ∀ x ∈ d.data, 0 ≤ x ∧ x < 256) {i : Nat} (hi : i < d.data.length) : d.byte i * 256 + d.byte (i + 1) = num d.data * 2 ^ 16 / 2 ^ (8 * (d.data.length - i)) % 65536 := by
  have h0 : d.byte i = num d.data / 256 ^ (d.data.length - 1 - i) % 256 := get_num h hi
  rcases Nat.lt_or_ge (i + 1) d.data.length with hi1 | hi1
  · have h1 : d.byte (i + 1) = num d.data / 256 ^ (d.data.length - 1 - (i + 1)) % 256 := get_num h hi1
    have e1 : num d.data * 2 ^ 16 / 2 ^ (8 * (d.data.length - i)) = num d.data / 256 ^ (d.data.length - 1 - (i + 1)) := by
      have : num d.data / 256 ^ (d.data.length - 1 - (i + 1)) = num d.data * 2 ^ 0 / 2 ^ (8 * (d.data.length - 1 - (i + 1))) := by
        rw [Nat.pow_zero, Nat.mul_one, Nat.pow_mul]
      rw [this]
      exact shift_eq (by omega)
    have e2 : num d.data / 256 ^ (d.data.length - 1 - i) = num d.data / 256 ^ (d.data.length - 1 - (i + 1)) / 256 := by
      rw [Nat.div_div_eq_div_mul, ← Nat.pow_succ, show (d.data.length - 1 - (i + 1)).succ = d.data.length - 1 - i by omega]
    rw [h0, h1, e1, e2]
    omega
  · rw [Dec.byte_out hi1, h0, show d.data.length - 1 - i = 0 by omega, show d.data.length - i = 1 by omega]
    omega
theorem Dec.bits_num {d : Dec} (h : ∀ x ∈ d.data, 0 ≤ x ∧ x < 256) {p n : Nat} (hn : n ≤ 8) (hp : d.br = min p (8 * d.data.length)) : d.bits n = cod d.data (p + n) % 2 ^ n := by
  rcases Nat.lt_or_ge p (8 * d.data.length) with hlt | hge
  · have hb : d.br = p := by omega
    have hi : p / 8 < d.data.length := by omega
    unfold Dec.bits Dec.two
    rw [hb, two_num h hi]
    have e1 : ∀ Z : Nat, Z % 65536 / 2 ^ (16 - p % 8 - n) % 2 ^ n = Z / 2 ^ (16 - p % 8 - n) % 2 ^ n := by
      intro Z
      rw [show (65536 : Nat) = 2 ^ (16 - p % 8 - n) * 2 ^ (p % 8 + n) by rw [← Nat.pow_add, show 16 - p % 8 - n + (p % 8 + n) = 16 by omega], Nat.mod_mul_right_div_self, Nat.mod_mod_of_dvd _ (Nat.pow_dvd_pow 2 (by omega))]
    rw [e1, Nat.div_div_eq_div_mul, ← Nat.pow_add]
    unfold cod
    rw [shift_eq (X := num d.data) (a := 16) (b := 8 * (d.data.length - p / 8) + (16 - p % 8 - n)) (c := p + n) (d := 8 * d.data.length) (by omega)]
  · have hb : d.br = 8 * d.data.length := by omega
    rw [cod_out hge]
    unfold Dec.bits Dec.two
    rw [hb, Nat.mul_div_cancel_left _ (by omega), Dec.byte_out (Nat.le_refl _), Dec.byte_out (by omega)]
    simp
end Go.Proofs.Ytkomikpfnogjcaa

/- The range coder's round trip, for symbols that are chosen evenly. -/
import Derived.Test.YtkomikpfnogjcaaDoorRnH
import Derived.Test.YtkomikpfnogjcaaDoorRmB
namespace Go.Proofs.YtkomikpfnogjcaaDoor
open Go Go.Vc
set_option maxRecDepth 100000
set_option linter.unusedVariables false

/-- Bytes as a number, the first one greatest. -/
def num (l : List Int) : Nat := l.foldl (fun r x => r * 256 + x.toNat) 0
theorem num_fold (l : List Int) : ∀ r : Nat, l.foldl (fun r x => r * 256 + x.toNat) r = r * 256 ^ l.length + num l := by
  induction l with
  | nil => intro r; simp [num]
  | cons x t ih =>
    intro r
    unfold num
    rw [List.foldl_cons, List.foldl_cons, ih, ih, List.length_cons, Nat.pow_succ]
    simp only [Nat.zero_mul, Nat.zero_add, Nat.add_mul]
    rw [Nat.mul_comm (256 ^ t.length) 256, Nat.mul_assoc, Nat.add_assoc]
theorem num_append (a b : List Int) : num (a ++ b) = num a * 256 ^ b.length + num b := by
  show (a ++ b).foldl _ 0 = _
  rw [List.foldl_append, num_fold]
  rfl
theorem num_one (x : Int) : num [x] = x.toNat := by simp [num]
theorem num_snoc (a : List Int) (x : Int) : num (a ++ [x]) = num a * 256 + x.toNat := by
  rw [num_append, num_one]
  rfl
theorem num_nil : num [] = 0 := rfl
theorem num_ff (k : Nat) : num (List.replicate k 255) + 1 = 256 ^ k := by
  induction k with
  | zero => rfl
  | succ k ih =>
    rw [List.replicate_succ', num_snoc, Nat.pow_succ]
    show num (List.replicate k 255) * 256 + 255 + 1 = _
    omega
theorem num_zero (k : Nat) : num (List.replicate k 0) = 0 := by
  induction k with
  | zero => rfl
  | succ k ih =>
    rw [List.replicate_succ', num_snoc, ih]
    rfl
theorem num_lt {l : List Int} (h : ∀ x ∈ l, 0 ≤ x ∧ x < 256) : num l < 256 ^ l.length := by
  induction l with
  | nil => simp [num]
  | cons x t ih =>
    have h1 := h x (List.mem_cons_self ..)
    have h2 := ih fun y hy => h y (List.mem_cons_of_mem _ hy)
    show num ([x] ++ t) < _
    rw [num_append, num_one, List.length_cons, Nat.pow_succ]
    have h3 : x.toNat * 256 ^ t.length ≤ 255 * 256 ^ t.length := Nat.mul_le_mul_right _ (by omega)
    omega

/-- The bytes that are out or wait, as a number; how many they are. -/
def EncS.fr (e : EncS) : Nat := (if 0 ≤ e.rem then num e.buf * 256 + e.rem.toNat else num e.buf) * 256 ^ e.ext + (256 ^ e.ext - 1)
def EncS.cnt (e : EncS) : Nat := (if 0 ≤ e.rem then e.buf.length + 1 else e.buf.length) + e.ext
/-- There is room for a carry. -/
def EncS.room (e : EncS) (n m : Nat) : Prop := e.rem < 0 ∨ e.rem = 255 → n + m ≤ 2147483648

theorem carry_cnt {e : EncS} (v : Nat) : (e.carry v).cnt = e.cnt + 1 := by
  unfold EncS.carry EncS.cnt
  split
  · show (if 0 ≤ e.rem then e.buf.length + 1 else e.buf.length) + (e.ext + 1) = _
    omega
  · show (if 0 ≤ ((v % 256 : Nat) : Int) then ((e.put1 v).put2 v e.ext).buf.length + 1 else _) + 0 = _
    rw [if_pos (by omega), put2_len]
    unfold EncS.put1
    split
    · show (e.buf ++ [_]).length + e.ext + 1 + 0 = _
      rw [List.length_append, List.length_singleton]
    · omega
theorem carry_fr {e : EncS} {v : Nat} (hr1 : -1 ≤ e.rem) (hr2 : e.rem < 256) (hv : v ≤ 511) (h : 256 ≤ v → 0 ≤ e.rem ∧ e.rem ≤ 254) : (e.carry v).fr = e.fr * 256 + v := by
  unfold EncS.carry
  have hp : 1 ≤ 256 ^ e.ext := Nat.one_le_pow _ _ (by omega)
  by_cases h5 : v = 255
  · rw [if_pos h5]
    unfold EncS.fr
    show (if 0 ≤ e.rem then num e.buf * 256 + e.rem.toNat else num e.buf) * 256 ^ (e.ext + 1) + (256 ^ (e.ext + 1) - 1) = _
    generalize (if 0 ≤ e.rem then num e.buf * 256 + e.rem.toNat else num e.buf) = X
    rw [Nat.pow_succ, Nat.add_mul, Nat.mul_assoc]
    generalize 256 ^ e.ext = q at *
    generalize X * (q * 256) = y
    omega
  · rw [if_neg h5]
    have key : num ((e.put1 v).put2 v e.ext).buf = e.fr + v / 256 := by
      unfold EncS.put2
      show num ((e.put1 v).buf ++ List.replicate e.ext _) = _
      rw [num_append, List.length_replicate]
      by_cases hr : 0 ≤ e.rem
      · have hb : (e.put1 v).buf = e.buf ++ [(e.rem + (v / 256 : Nat)) % 256] := by
          unfold EncS.put1
          rw [if_pos hr]
        rw [hb, num_snoc]
        unfold EncS.fr
        rw [if_pos hr]
        have hf := num_ff e.ext
        rcases Nat.lt_or_ge v 256 with hc | hc
        · have h0 : v / 256 = 0 := by omega
          rw [h0]
          have e1 : ((e.rem + ((0 : Nat) : Int)) % 256).toNat = e.rem.toNat := by omega
          rw [e1]
          show _ + num (List.replicate e.ext 255) = _
          omega
        · have h0 : v / 256 = 1 := by omega
          obtain ⟨g1, g2⟩ := h hc
          rw [h0]
          have e1 : ((e.rem + ((1 : Nat) : Int)) % 256).toNat = e.rem.toNat + 1 := by omega
          rw [e1]
          show _ + num (List.replicate e.ext 0) = _
          rw [num_zero, ← Nat.add_assoc, Nat.add_mul _ 1]
          omega
      · have hb : (e.put1 v).buf = e.buf := by
          unfold EncS.put1
          rw [if_neg hr]
        have h0 : v / 256 = 0 := by
          rcases Nat.lt_or_ge v 256 with hc | hc
          · omega
          · exact absurd (h hc).1 hr
        rw [hb, h0]
        unfold EncS.fr
        rw [if_neg hr]
        have hf := num_ff e.ext
        show _ + num (List.replicate e.ext 255) = _
        omega
    unfold EncS.fr at key ⊢
    show (if 0 ≤ ((v % 256 : Nat) : Int) then num ((e.put1 v).put2 v e.ext).buf * 256 + (((v % 256 : Nat) : Int)).toNat else _) * 256 ^ 0 + (256 ^ 0 - 1) = _
    rw [if_pos (by omega), key, Int.toNat_natCast]
    show (_ * 256 + v % 256) * 1 + (1 - 1) = _
    omega
/-- One byte put out of a window. -/
theorem carry_win {e : EncS} {n m : Nat} (hr1 : -1 ≤ e.rem) (hr2 : e.rem < 256) (hnm : n + m ≤ 4294967295) (hm : 1 ≤ m) (h : e.room n m) :
    (e.carry (n / 8388608)).fr * 2147483648 + n * 256 % 2147483648 = (e.fr * 2147483648 + n) * 256 ∧ (m * 256 ≤ 2147483648 → (e.carry (n / 8388608)).room (n * 256 % 2147483648) (m * 256)) ∧ -1 ≤ (e.carry (n / 8388608)).rem ∧ (e.carry (n / 8388608)).rem < 256 := by
  refine ⟨?_, fun hm2 => ?_, ?_⟩
  · rw [carry_fr hr1 hr2 (by omega) ?_]
    · omega
    · intro hv
      refine ⟨?_, ?_⟩
      · rcases Int.lt_or_le e.rem 0 with c | c
        · have := h (.inl c); omega
        · exact c
      · rcases Int.lt_or_le 254 e.rem with c | c
        · have := h (.inr (by omega)); omega
        · exact c
  · unfold EncS.room
    unfold EncS.carry
    split
    · intro hc
      have := h hc
      omega
    · intro hc
      have hc : ((n / 8388608 % 256 : Nat) : Int) < 0 ∨ ((n / 8388608 % 256 : Nat) : Int) = 255 := hc
      omega
  · unfold EncS.carry
    split
    · exact ⟨hr1, hr2⟩
    · show -1 ≤ ((n / 8388608 % 256 : Nat) : Int) ∧ ((n / 8388608 % 256 : Nat) : Int) < 256
      omega

/-- So many bits from the front; behind the end nothing but 0. -/
def cod (B : List Int) (p : Nat) : Nat := num B * 2 ^ p / 2 ^ (8 * B.length)
theorem shift_eq {X a b c d : Nat} (h : a + d = b + c) : X * 2 ^ a / 2 ^ b = X * 2 ^ c / 2 ^ d := by
  have h1 : X * 2 ^ a / 2 ^ b = X * 2 ^ a * 2 ^ d / (2 ^ b * 2 ^ d) := (Nat.mul_div_mul_right _ _ (Nat.two_pow_pos d)).symm
  have h2 : X * 2 ^ c / 2 ^ d = X * 2 ^ c * 2 ^ b / (2 ^ d * 2 ^ b) := (Nat.mul_div_mul_right _ _ (Nat.two_pow_pos b)).symm
  rw [h1, h2, Nat.mul_assoc, Nat.mul_assoc, ← Nat.pow_add, ← Nat.pow_add, ← Nat.pow_add, ← Nat.pow_add, h, Nat.add_comm b d, Nat.add_comm b c]
theorem cod_next (B : List Int) (p k : Nat) : cod B p = cod B (p + k) / 2 ^ k := by
  unfold cod
  rw [Nat.div_div_eq_div_mul, ← Nat.pow_add]
  exact shift_eq (by omega)
theorem cod_step (B : List Int) (p k : Nat) : cod B (p + k) = cod B p * 2 ^ k + cod B (p + k) % 2 ^ k := by
  rw [cod_next B p k]
  have := Nat.div_add_mod (cod B (p + k)) (2 ^ k)
  rw [Nat.mul_comm] at this
  exact this.symm
theorem cod_lt {B : List Int} (h : ∀ x ∈ B, 0 ≤ x ∧ x < 256) (p : Nat) : cod B p < 2 ^ p := by
  have h1 := num_lt h
  have h2 : (256 : Nat) ^ B.length = 2 ^ (8 * B.length) := by rw [Nat.pow_mul]
  rw [h2] at h1
  unfold cod
  rw [Nat.div_lt_iff_lt_mul (Nat.two_pow_pos _), Nat.mul_comm]
  exact (Nat.mul_lt_mul_left (Nat.two_pow_pos p)).2 h1
theorem cod_out {B : List Int} {p k : Nat} (h : 8 * B.length ≤ p) : cod B (p + k) % 2 ^ k = 0 := by
  unfold cod
  rw [show p + k = 8 * B.length + (p + k - 8 * B.length) by omega, Nat.pow_add, ← Nat.mul_assoc, Nat.mul_right_comm, Nat.mul_div_cancel _ (Nat.two_pow_pos _)]
  rw [show p + k - 8 * B.length = (p - 8 * B.length) + k by omega, Nat.pow_add, ← Nat.mul_assoc]
  exact Nat.mul_mod_left _ _

theorem get_num {l : List Int} (h : ∀ x ∈ l, 0 ≤ x ∧ x < 256) {i : Nat} (hi : i < l.length) : (l.getD i 0).toNat = num l / 256 ^ (l.length - 1 - i) % 256 := by
  have hs : l = l.take i ++ [l[i]] ++ l.drop (i + 1) := by
    rw [List.append_assoc, List.singleton_append, ← List.drop_eq_getElem_cons hi, List.take_append_drop]
  have hn : num l = (num (l.take i) * 256 + l[i].toNat) * 256 ^ (l.length - 1 - i) + num (l.drop (i + 1)) := by
    rw [show num l = num (l.take i ++ [l[i]] ++ l.drop (i + 1)) by rw [← hs], num_append, num_snoc, List.length_drop, show l.length - (i + 1) = l.length - 1 - i by omega]
  have hd : num (l.drop (i + 1)) < 256 ^ (l.length - 1 - i) := by
    have := num_lt (l := l.drop (i + 1)) fun x hx => h x (List.mem_of_mem_drop hx)
    rwa [List.length_drop, show l.length - (i + 1) = l.length - 1 - i by omega] at this
  have hx := h _ (List.getElem_mem hi)
  rw [hn, Nat.mul_comm, Nat.mul_add_div (Nat.pow_pos (by omega)), Nat.div_eq_of_lt hd, Nat.add_zero]
  rw [List.getD_eq_getElem?_getD, List.getElem?_eq_getElem hi, Option.getD_some]
  omega
theorem two_num {d : Dec} (h : ∀ x ∈ d.data, 0 ≤ x ∧ x < 256) {i : Nat} (hi : i < d.data.length) : d.byte i * 256 + d.byte (i + 1) = num d.data * 2 ^ 16 / 2 ^ (8 * (d.data.length - i)) % 65536 := by
  have h0 : d.byte i = num d.data / 256 ^ (d.data.length - 1 - i) % 256 := get_num h hi
  rcases Nat.lt_or_ge (i + 1) d.data.length with hi1 | hi1
  · have h1 : d.byte (i + 1) = num d.data / 256 ^ (d.data.length - 1 - (i + 1)) % 256 := get_num h hi1
    have e1 : num d.data * 2 ^ 16 / 2 ^ (8 * (d.data.length - i)) = num d.data / 256 ^ (d.data.length - 1 - (i + 1)) := by
      have : num d.data / 256 ^ (d.data.length - 1 - (i + 1)) = num d.data * 2 ^ 0 / 2 ^ (8 * (d.data.length - 1 - (i + 1))) := by
        rw [Nat.pow_zero, Nat.mul_one, Nat.pow_mul]
      rw [this]
      exact shift_eq (by omega)
    have e2 : num d.data / 256 ^ (d.data.length - 1 - i) = num d.data / 256 ^ (d.data.length - 1 - (i + 1)) / 256 := by
      rw [Nat.div_div_eq_div_mul, ← Nat.pow_succ, show (d.data.length - 1 - (i + 1)).succ = d.data.length - 1 - i by omega]
    rw [h0, h1, e1, e2]
    omega
  · rw [Dec.byte_out hi1, h0, show d.data.length - 1 - i = 0 by omega, show d.data.length - i = 1 by omega]
    omega
theorem Dec.bits_num {d : Dec} (h : ∀ x ∈ d.data, 0 ≤ x ∧ x < 256) {p n : Nat} (hn : n ≤ 8) (hp : d.br = min p (8 * d.data.length)) : d.bits n = cod d.data (p + n) % 2 ^ n := by
  rcases Nat.lt_or_ge p (8 * d.data.length) with hlt | hge
  · have hb : d.br = p := by omega
    have hi : p / 8 < d.data.length := by omega
    unfold Dec.bits Dec.two
    rw [hb, two_num h hi]
    have e1 : ∀ Z : Nat, Z % 65536 / 2 ^ (16 - p % 8 - n) % 2 ^ n = Z / 2 ^ (16 - p % 8 - n) % 2 ^ n := by
      intro Z
      rw [show (65536 : Nat) = 2 ^ (16 - p % 8 - n) * 2 ^ (p % 8 + n) by rw [← Nat.pow_add, show 16 - p % 8 - n + (p % 8 + n) = 16 by omega], Nat.mod_mul_right_div_self, Nat.mod_mod_of_dvd _ (Nat.pow_dvd_pow 2 (by omega))]
    rw [e1, Nat.div_div_eq_div_mul, ← Nat.pow_add]
    unfold cod
    rw [shift_eq (X := num d.data) (a := 16) (b := 8 * (d.data.length - p / 8) + (16 - p % 8 - n)) (c := p + n) (d := 8 * d.data.length) (by omega)]
  · have hb : d.br = 8 * d.data.length := by omega
    rw [cod_out hge]
    unfold Dec.bits Dec.two
    rw [hb, Nat.mul_div_cancel_left _ (by omega), Dec.byte_out (Nat.le_refl _), Dec.byte_out (by omega)]
    simp

/-- All that the writer has reckoned, as one number. -/
def EncS.V (e : EncS) : Nat := e.fr * 2147483648 + e.low
def EncS.pos (e : EncS) : Nat := 31 + 8 * e.cnt
def EncS.roomy (e : EncS) : Prop := e.room e.low e.rng
/-- The bytes lie in the writer's range. -/
def holds (B : List Int) (e : EncS) : Prop := e.V ≤ cod B e.pos ∧ cod B e.pos < e.V + e.rng
/-- The reader follows. -/
structure Rt (B : List Int) (e : EncS) (d : Dec) : Prop where
  data : d.data = B
  br : d.br = min e.pos (8 * B.length)
  rng : d.rng = e.rng
  val : d.val + 1 + cod B e.pos = e.V + e.rng
  rb : d.rb = 8 * e.tail.length + e.nend

theorem step_V {e : EncS} {N : Nat} (h : e.ok N) (hr : e.roomy) (hs : e.rng ≤ 8388608) : e.step.V = e.V * 256 ∧ e.step.pos = e.pos + 8 ∧ e.step.roomy ∧ e.step.rng = e.rng * 256 := by
  have h1 := h.plain
  have h2 := h.low
  have h3 := h.lo
  obtain ⟨a, b, _, _⟩ := carry_win (n := e.low) (m := e.rng) h1.1 h1.2.1 (by omega) h3 hr
  refine ⟨a, ?_, b (by omega), rfl⟩
  show 31 + 8 * (e.carry (e.low / 8388608)).cnt = 31 + 8 * e.cnt + 8
  rw [carry_cnt]
  omega
theorem holds_step {B : List Int} {e : EncS} {N : Nat} (h : e.ok N) (hr : e.roomy) (hs : e.rng ≤ 8388608) (hh : holds B e.step) : holds B e := by
  obtain ⟨a, b, _, c⟩ := step_V h hr hs
  unfold holds at *
  rw [a, b, c] at hh
  have := cod_step B e.pos 8
  omega
theorem Rt_step {B : List Int} {e : EncS} {d : Dec} {N : Nat} (hB : ∀ x ∈ B, 0 ≤ x ∧ x < 256) (h : e.ok N) (hr : e.roomy) (hs : e.rng ≤ 8388608) (hh : holds B e) (ht : Rt B e d) : Rt B e.step d.step := by
  obtain ⟨a, b, _, c⟩ := step_V h hr hs
  obtain ⟨t1, t2, t3, t4, t5⟩ := ht
  obtain ⟨w1, w2, w3, _⟩ := carry_rest e (e.low / 8388608)
  unfold holds at hh
  have hb : d.bits 8 = cod B (e.pos + 8) % 256 := by
    have := Dec.bits_num (d := d) (p := e.pos) (n := 8) (by rw [t1]; exact hB) (by omega) (by rw [t1]; exact t2)
    rw [t1] at this
    exact this
  have hcs := cod_step B e.pos 8
  refine ⟨t1, ?_, ?_, ?_, ?_⟩
  · show (if d.br + 8 ≤ 8 * d.data.length then d.br + 8 else max d.br (8 * d.data.length)) = min e.step.pos (8 * B.length)
    rw [b, t1, t2]
    split <;> omega
  · show d.rng * 256 = _
    rw [c, t3]
  · show (d.val * 256 + (255 - d.bits 8)) % 2147483648 + 1 + cod B e.step.pos = _
    rw [a, b, c, hb]
    omega
  · show d.rb = 8 * (e.carry (e.low / 8388608)).tail.length + (e.carry (e.low / 8388608)).nend
    rw [w1, w3, t5]
theorem iter_sane {e : EncS} {N : Nat} (h : e.ok N) (hr : e.roomy) : ∀ k, k ≤ e.steps → (e.iter k).roomy
  | 0, _ => hr
  | k + 1, hk => (step_V (EncS.iter_ok h k (by omega)) (iter_sane h hr k (by omega)) ((EncS.steps_lt h.lo (by omega)).1 (by omega))).2.2.1
theorem holds_iter {B : List Int} {e : EncS} {N : Nat} (h : e.ok N) (hr : e.roomy) (hh : holds B e.norm) : ∀ j k, j + k = e.steps → holds B (e.iter k)
  | 0, k, hk => by
    rw [show k = e.steps by omega]
    exact hh
  | j + 1, k, hk => holds_step (EncS.iter_ok h k (by omega)) (iter_sane h hr k (by omega)) ((EncS.steps_lt h.lo (by omega)).1 (by omega)) (holds_iter h hr hh j (k + 1) (by omega))
theorem holds_norm {B : List Int} {e : EncS} {N : Nat} (h : e.ok N) (hr : e.roomy) (hh : holds B e.norm) : holds B e := holds_iter h hr hh e.steps 0 (by omega)
theorem roomy_norm {e : EncS} {N : Nat} (h : e.ok N) (hr : e.roomy) : e.norm.roomy := iter_sane h hr e.steps (by omega)
theorem Rt_iter {B : List Int} {e : EncS} {d : Dec} {N : Nat} (hB : ∀ x ∈ B, 0 ≤ x ∧ x < 256) (h : e.ok N) (hr : e.roomy) (hh : holds B e.norm) (ht : Rt B e d) : ∀ k, k ≤ e.steps → Rt B (e.iter k) (d.iter k)
  | 0, _ => ht
  | k + 1, hk => Rt_step hB (EncS.iter_ok h k (by omega)) (iter_sane h hr k (by omega)) ((EncS.steps_lt h.lo (by omega)).1 (by omega)) (holds_iter h hr hh (e.steps - k) k (by omega)) (Rt_iter hB h hr hh ht k (by omega))
theorem Rt_norm {B : List Int} {e : EncS} {d : Dec} {N : Nat} (hB : ∀ x ∈ B, 0 ≤ x ∧ x < 256) (h : e.ok N) (hr : e.roomy) (hh : holds B e.norm) (ht : Rt B e d) : Rt B e.norm d.norm := by
  have hi := Rt_iter hB h hr hh ht
  have h3 := e.steps_le
  rw [Dec.norm_iter (k := e.steps) h3 ?_ ?_]
  · exact hi _ (Nat.le_refl _)
  · intro i hk
    rw [(hi i (by omega)).rng]
    exact (EncS.steps_lt h.lo (by omega)).1 hk
  · rw [(hi _ (Nat.le_refl _)).rng]
    have := EncS.steps_lt (k := e.steps) h.lo (by omega)
    omega

/-! Symbols -/
theorem sym_V {e : EncS} {N lo hi n : Nat} (h : e.ok N) (h1 : lo < hi) (h2 : hi ≤ n) : e.V ≤ (e.sym lo hi n).V ∧ (e.sym lo hi n).V + (e.sym lo hi n).rng + e.rng / n * (n - hi) = e.V + e.rng ∧ (lo ≠ 0 → (e.sym lo hi n).V + e.rng / n * (n - lo) = e.V + e.rng) ∧ (e.sym lo hi n).pos = e.pos ∧ (e.sym lo hi n).tail = e.tail ∧ (e.sym lo hi n).nend = e.nend ∧ (e.sym lo hi n).win = e.win ∧ (e.roomy → (e.sym lo hi n).roomy) := by
  obtain ⟨a, b, c, d, f⟩ := e.sym_facts h1 h2
  by_cases h0 : lo = 0
  · have hs : e.sym lo hi n = { e with rng := e.rng - e.rng / n * (n - hi) } := if_pos h0
    rw [hs]
    refine ⟨Nat.le_refl _, ?_, fun h => absurd h0 h, rfl, rfl, rfl, rfl, ?_⟩
    · show e.fr * 2147483648 + e.low + (e.rng - e.rng / n * (n - hi)) + _ = e.fr * 2147483648 + e.low + e.rng
      omega
    · intro hr hc
      have := hr hc
      show e.low + (e.rng - e.rng / n * (n - hi)) ≤ _
      omega
  · have hs : e.sym lo hi n = { e with low := e.low + (e.rng - e.rng / n * (n - lo)), rng := e.rng / n * (hi - lo) } := if_neg h0
    rw [hs]
    refine ⟨?_, ?_, fun _ => ?_, rfl, rfl, rfl, rfl, ?_⟩
    · show e.fr * 2147483648 + e.low ≤ e.fr * 2147483648 + (e.low + _)
      omega
    · show e.fr * 2147483648 + (e.low + (e.rng - e.rng / n * (n - lo))) + e.rng / n * (hi - lo) + _ = e.fr * 2147483648 + e.low + e.rng
      omega
    · show e.fr * 2147483648 + (e.low + (e.rng - e.rng / n * (n - lo))) + _ = e.fr * 2147483648 + e.low + e.rng
      omega
    · intro hr hc
      have := hr hc
      show e.low + (e.rng - e.rng / n * (n - lo)) + e.rng / n * (hi - lo) ≤ _
      omega
theorem holds_sym {B : List Int} {e : EncS} {N lo hi n : Nat} (h : e.ok N) (h1 : lo < hi) (h2 : hi ≤ n) (hh : holds B (e.sym lo hi n)) : holds B e := by
  obtain ⟨a, b, _, c, _⟩ := sym_V h h1 h2
  unfold holds at *
  rw [c] at hh
  omega
theorem Rt_sym {B : List Int} {e : EncS} {d : Dec} {N lo hi n : Nat} (h : e.inv N) (h1 : lo < hi) (h2 : hi ≤ n) (h3 : n ≤ 65535) (hh : holds B (e.sym lo hi n)) (ht : Rt B e d) :
    lo ≤ d.at n ∧ d.at n < hi ∧ Rt B (e.sym lo hi n) (d.cut (d.rng / n) lo hi n) := by
  obtain ⟨a, b, c, g, g1, g2, _⟩ := sym_V (N := N) h.ok h1 h2
  obtain ⟨t1, t2, t3, t4, t5⟩ := ht
  have hb := h.big
  have hs : 1 ≤ e.rng / n := (Nat.le_div_iff_mul_le (by omega)).2 (by omega)
  obtain ⟨s1, s2, s3, s4, s5⟩ := e.sym_facts h1 h2
  have hrng : (e.sym lo hi n).rng = if lo = 0 then e.rng - e.rng / n * (n - hi) else e.rng / n * (hi - lo) := by
    unfold EncS.sym
    split <;> rfl
  unfold holds at hh
  rw [g] at hh
  have hv : e.rng / n * (n - hi) ≤ d.val := by omega
  have hv2 : lo ≠ 0 → d.val < e.rng / n * (n - lo) := fun h0 => by have := c h0; omega
  refine ⟨?_, ?_, t1, ?_, ?_, ?_, ?_⟩
  · unfold Dec.at
    rw [t3]
    rcases Nat.eq_zero_or_pos lo with h0 | h0
    · omega
    · have := (Nat.div_lt_iff_lt_mul (by omega)).2 (by rw [Nat.mul_comm]; exact hv2 (by omega) : d.val < (n - lo) * (e.rng / n))
      omega
  · unfold Dec.at
    rw [t3]
    have := (Nat.le_div_iff_mul_le (by omega)).2 (by rw [Nat.mul_comm]; exact hv : (n - hi) * (e.rng / n) ≤ d.val)
    omega
  · rw [g]
    exact t2
  · show (if lo ≠ 0 then d.rng / n * (hi - lo) else d.rng - d.rng / n * (n - hi)) = _
    rw [hrng, t3]
    by_cases h0 : lo = 0
    · rw [if_neg (by omega), if_pos h0]
    · rw [if_pos h0, if_neg h0]
  · show d.val - d.rng / n * (n - hi) + 1 + cod B (e.sym lo hi n).pos = _
    rw [g, t3]
    omega
  · rw [g1, g2]
    exact t5

/-- The raw bits, as one number, the first one lowest; how many they are. -/
def EncS.rawN (e : EncS) : Nat := num e.tail.reverse + e.win * 256 ^ e.tail.length
def EncS.rawC (e : EncS) : Nat := 8 * e.tail.length + e.nend
def rawOk (B : List Int) (e : EncS) : Prop := num B % 2 ^ e.rawC = e.rawN

theorem pow256 (n : Nat) : 256 ^ n = 2 ^ (8 * n) := by rw [Nat.pow_mul]
theorem rawN_lt {e : EncS} {N : Nat} (h : e.ok N) : e.rawN < 2 ^ e.rawC := by
  have h1 := num_lt (l := e.tail.reverse) fun x hx => h.tb x (List.mem_reverse.1 hx)
  rw [List.length_reverse] at h1
  have h2 := Nat.mul_le_mul_right (256 ^ e.tail.length) (Nat.succ_le_of_lt h.win)
  unfold EncS.rawN EncS.rawC
  rw [Nat.add_comm (8 * e.tail.length), Nat.pow_add, ← pow256]
  rw [Nat.succ_mul] at h2
  omega
theorem norm_rest (e : EncS) : ∀ k, (e.iter k).tail = e.tail ∧ (e.iter k).win = e.win ∧ (e.iter k).nend = e.nend
  | 0 => ⟨rfl, rfl, rfl⟩
  | k + 1 => by
    obtain ⟨a, b, c⟩ := norm_rest e k
    obtain ⟨d, f, g, _⟩ := carry_rest (e.iter k) ((e.iter k).low / 8388608)
    exact ⟨d.trans a, f.trans b, g.trans c⟩
theorem rawOk_of {B : List Int} {e f : EncS} (h1 : f.tail = e.tail) (h2 : f.win = e.win) (h3 : f.nend = e.nend) (h : rawOk B f) : rawOk B e := by
  unfold rawOk EncS.rawN EncS.rawC at *
  rwa [h1, h2, h3] at h

/-- A part of a total. -/
theorem cum_rt {e : EncS} {N lo hi n : Nat} (h : e.inv N) (hr : e.roomy) (h1 : lo < hi) (h2 : hi ≤ n) (h3 : n ≤ 65535) :
    (e.cum lo hi n).roomy ∧ (∀ B, rawOk B (e.cum lo hi n) → rawOk B e) ∧ (∀ B, holds B (e.cum lo hi n) → holds B e) ∧
      ∀ B d, (∀ x ∈ B, 0 ≤ x ∧ x < 256) → Rt B e d → holds B (e.cum lo hi n) → lo ≤ d.at n ∧ d.at n < hi ∧ Rt B (e.cum lo hi n) (d.cut (d.rng / n) lo hi n).norm := by
  have hc : e.cum lo hi n = (e.sym lo hi n).norm := by
    unfold EncS.cum
    rw [if_neg (by omega)]
  obtain ⟨a, b, c, g, g1, g2, g3, g4⟩ := sym_V (N := N) h.ok h1 h2
  have hok := EncS.sym_ok h.ok h.big h1 h2 h3
  obtain ⟨n1, n2, n3⟩ := norm_rest (e.sym lo hi n) (e.sym lo hi n).steps
  rw [hc]
  refine ⟨roomy_norm hok (g4 hr), fun B hb => rawOk_of (n1.trans g1) (n2.trans g3) (n3.trans g2) hb, fun B hh => holds_sym h.ok h1 h2 (holds_norm hok (g4 hr) hh), fun B d hB ht hh => ?_⟩
  obtain ⟨q1, q2, q3⟩ := Rt_sym h h1 h2 h3 (holds_norm hok (g4 hr) hh) ht
  exact ⟨q1, q2, Rt_norm hB hok (g4 hr) hh q3⟩

/-- A bit. -/
theorem bit_rt {e : EncS} {N k b : Nat} (h : e.inv N) (hr : e.roomy) (hk : 1 ≤ k) (hk2 : k ≤ 15) (hb : b ≤ 1) :
    (e.bit k b).norm.roomy ∧ (∀ B, rawOk B (e.bit k b).norm → rawOk B e) ∧ (∀ B, holds B (e.bit k b).norm → holds B e) ∧
      ∀ B d, (∀ x ∈ B, 0 ≤ x ∧ x < 256) → Rt B e d → holds B (e.bit k b).norm → (d.logp k).1 = b ∧ Rt B (e.bit k b).norm (d.logp k).2 := by
  have hp : 2 ^ 1 ≤ 2 ^ k := Nat.pow_le_pow_right (by omega) hk
  have hp2 : 2 ^ k ≤ 2 ^ 15 := Nat.pow_le_pow_right (by omega) hk2
  have hbs := EncS.bit_sym (e := e) (k := k) (b := b) hk
  have hbg := h.big
  have hs : 1 ≤ e.rng / 2 ^ k := (Nat.le_div_iff_mul_le (by omega)).2 (by omega)
  have hs2 : e.rng / 2 ^ k ≤ e.rng / 2 := Nat.div_le_div_left (by omega) (by omega)
  have hok : (e.bit k b).ok N := EncS.bit_ok h hk hk2
  have key : ∃ lo hi, lo < hi ∧ hi ≤ 2 ^ k ∧ e.bit k b = e.sym lo hi (2 ^ k) := by
    rw [hbs]
    by_cases c : b = 0
    · rw [if_pos c]
      exact ⟨_, _, by omega, by omega, rfl⟩
    · rw [if_neg c]
      exact ⟨_, _, by omega, by omega, rfl⟩
  obtain ⟨lo, hi, l1, l2, l3⟩ := key
  obtain ⟨a, _, _, g, g1, g2, g3, g4⟩ := sym_V (N := N) h.ok l1 l2
  rw [← l3] at a g g1 g2 g3 g4
  obtain ⟨n1, n2, n3⟩ := norm_rest (e.bit k b) (e.bit k b).steps
  refine ⟨roomy_norm hok (g4 hr), fun B hb => rawOk_of (n1.trans g1) (n2.trans g3) (n3.trans g2) hb, fun B hh => ?_, fun B d hB ht hh => ?_⟩
  · have := holds_norm hok (g4 hr) hh
    rw [l3] at this
    exact holds_sym h.ok l1 l2 this
  · have hh2 := holds_norm hok (g4 hr) hh
    obtain ⟨t1, t2, t3, t4, t5⟩ := ht
    by_cases c : b = 0
    · have hbit : e.bit k b = { e with rng := e.rng - e.rng / 2 ^ k } := if_pos c
      have hV : (e.bit k b).V = e.V := by rw [hbit]; rfl
      have hR : (e.bit k b).rng = e.rng - e.rng / 2 ^ k := by rw [hbit]
      have hh3 := hh2
      unfold holds at hh3
      rw [hV, hR, g] at hh3
      have hd : d.logp k = (0, { d with val := d.val - d.rng / 2 ^ k, rng := d.rng - d.rng / 2 ^ k }.norm) := by
        unfold Dec.logp
        rw [t3, if_pos (by omega)]
      rw [hd]
      refine ⟨c.symm, Rt_norm hB hok (g4 hr) hh ⟨t1, by rw [g]; exact t2, ?_, ?_, by rw [g1, g2]; exact t5⟩⟩
      · rw [hR, t3]
      · show d.val - d.rng / 2 ^ k + 1 + _ = _
        rw [hV, hR, g, t3]
        omega
    · have hbit : e.bit k b = { e with low := e.low + (e.rng - e.rng / 2 ^ k), rng := e.rng / 2 ^ k } := if_neg c
      have hV : (e.bit k b).V = e.V + (e.rng - e.rng / 2 ^ k) := by
        rw [hbit]
        show e.fr * 2147483648 + (e.low + _) = e.fr * 2147483648 + e.low + _
        omega
      have hR : (e.bit k b).rng = e.rng / 2 ^ k := by rw [hbit]
      have hh3 := hh2
      unfold holds at hh3
      rw [hV, hR, g] at hh3
      have hd : d.logp k = (1, { d with rng := d.rng / 2 ^ k }.norm) := by
        unfold Dec.logp
        rw [t3, if_neg (by omega)]
      rw [hd]
      refine ⟨by show 1 = b; omega, Rt_norm hB hok (g4 hr) hh ⟨t1, by rw [g]; exact t2, ?_, ?_, by rw [g1, g2]; exact t5⟩⟩
      · rw [hR, t3]
      · show d.val + 1 + _ = _
        rw [hV, hR, g]
        omega

/-! Raw bits -/
theorem raw_keep (e : EncS) (n v : Nat) : ∀ k, ((e.rawTop n v).rawIter k).V = e.V ∧ ((e.rawTop n v).rawIter k).pos = e.pos ∧ ((e.rawTop n v).rawIter k).rng = e.rng ∧ (e.roomy → ((e.rawTop n v).rawIter k).roomy)
  | 0 => ⟨rfl, rfl, rfl, id⟩
  | k + 1 => raw_keep e n v k
theorem rawStep_num {e : EncS} (h : 8 ≤ e.nend) : e.rawStep.rawN = e.rawN ∧ e.rawStep.rawC = e.rawC := by
  constructor
  · unfold EncS.rawN
    show num (e.tail ++ [((e.win % 256 : Nat) : Int)]).reverse + e.win / 256 * 256 ^ (e.tail ++ [((e.win % 256 : Nat) : Int)]).length = _
    rw [List.reverse_append, List.length_append, num_append, List.length_reverse, List.length_singleton, Nat.pow_succ]
    show num [((e.win % 256 : Nat) : Int)] * _ + _ + _ = _
    rw [num_one, Int.toNat_natCast]
    have e1 : e.win / 256 * (256 ^ e.tail.length * 256) = (e.win / 256 * 256) * 256 ^ e.tail.length := by
      rw [Nat.mul_comm (256 ^ e.tail.length), Nat.mul_assoc]
    have e2 : e.win * 256 ^ e.tail.length = (e.win / 256 * 256) * 256 ^ e.tail.length + e.win % 256 * 256 ^ e.tail.length := by
      rw [← Nat.add_mul]
      congr 1
      omega
    omega
  · show 8 * (e.tail ++ [_]).length + (e.nend - 8) = 8 * e.tail.length + e.nend
    rw [List.length_append, List.length_singleton]
    omega
theorem rawIter_num {e : EncS} : ∀ k, 8 * k ≤ e.nend → (e.rawIter k).rawN = e.rawN ∧ (e.rawIter k).rawC = e.rawC
  | 0, _ => ⟨rfl, rfl⟩
  | k + 1, hk => by
    obtain ⟨a, b⟩ := rawIter_num (e := e) k (by omega)
    obtain ⟨c, _⟩ := EncS.rawIter_facts e k (by omega)
    obtain ⟨f, g⟩ := rawStep_num (e := e.rawIter k) (by omega)
    exact ⟨f.trans a, g.trans b⟩
theorem raw_num (e : EncS) (n v : Nat) : (e.raw n v).rawN = e.rawN + v % 2 ^ n * 2 ^ e.rawC ∧ (e.raw n v).rawC = e.rawC + n := by
  obtain ⟨a, b⟩ := rawIter_num (e := e.rawTop n v) ((e.nend + n) / 8) (by show 8 * _ ≤ e.nend + n; omega)
  refine ⟨a.trans ?_, b.trans ?_⟩
  · unfold EncS.rawN EncS.rawC
    show num e.tail.reverse + (e.win + v % 2 ^ n * 2 ^ e.nend) * 256 ^ e.tail.length = _
    rw [Nat.add_mul, Nat.add_comm (8 * e.tail.length), Nat.pow_add, ← pow256, Nat.mul_assoc, Nat.add_assoc]
  · show 8 * e.tail.length + (e.nend + n) = 8 * e.tail.length + e.nend + n
    omega
theorem rawAt_num {d : Dec} (h : ∀ x ∈ d.data, 0 ≤ x ∧ x < 256) (i : Nat) : d.rawAt i = num d.data / 2 ^ i % 2 := by
  unfold Dec.rawAt
  split
  · rename_i hi
    have h0 : d.byte (d.data.length - 1 - i / 8) = num d.data / 256 ^ (d.data.length - 1 - (d.data.length - 1 - i / 8)) % 256 := get_num h (by omega)
    rw [h0, show d.data.length - 1 - (d.data.length - 1 - i / 8) = i / 8 by omega]
    have e1 : ∀ Z j : Nat, j < 8 → Z % 256 / 2 ^ j % 2 = Z / 2 ^ j % 2 := by
      intro Z j hj
      rw [show (256 : Nat) = 2 ^ j * 2 ^ (8 - j) by rw [← Nat.pow_add, show j + (8 - j) = 8 by omega], Nat.mod_mul_right_div_self, Nat.mod_mod_of_dvd _ (by rw [show 8 - j = (7 - j) + 1 by omega, Nat.pow_succ]; exact Nat.dvd_mul_left ..)]
    rw [e1 _ _ (Nat.mod_lt _ (by omega)), Nat.div_div_eq_div_mul, pow256, ← Nat.pow_add, show 8 * (i / 8) + i % 8 = i by omega]
  · rename_i hi
    have h1 := num_lt h
    have h2 : 256 ^ d.data.length ≤ 2 ^ i := by
      rw [pow256]
      exact Nat.pow_le_pow_right (by omega) (by omega)
    rw [Nat.div_eq_of_lt (by omega)]
theorem raw_read {d : Dec} (h : ∀ x ∈ d.data, 0 ≤ x ∧ x < 256) : ∀ n, d.raw n = num d.data / 2 ^ d.rb % 2 ^ n
  | 0 => by
    rw [Nat.pow_zero, Nat.mod_one]
    rfl
  | n + 1 => by
    show d.raw n + d.rawAt (d.rb + n) * 2 ^ n = _
    rw [raw_read h n, rawAt_num h, Nat.pow_add, ← Nat.div_div_eq_div_mul, Nat.mod_pow_succ, Nat.mul_comm (2 ^ n)]
/-- Raw bits that were put are found. -/
theorem raw_rt {e : EncS} {N n v : Nat} (h : e.ok N) :
    ((e.roomy → (e.raw n v).roomy)) ∧ (∀ B, holds B (e.raw n v) ↔ holds B e) ∧ (∀ B, rawOk B (e.raw n v) → rawOk B e ∧ num B / 2 ^ e.rawC % 2 ^ n = v % 2 ^ n) ∧
      ∀ B d, (∀ x ∈ B, 0 ≤ x ∧ x < 256) → Rt B e d → rawOk B (e.raw n v) → d.raw n = v % 2 ^ n ∧ Rt B (e.raw n v) (d.rawOn n) := by
  obtain ⟨k1, k2, k3, k4⟩ := raw_keep e n v ((e.nend + n) / 8)
  obtain ⟨r1, r2⟩ := raw_num e n v
  have key : ∀ B, rawOk B (e.raw n v) → rawOk B e ∧ num B / 2 ^ e.rawC % 2 ^ n = v % 2 ^ n := by
    intro B hB
    unfold rawOk at *
    rw [r1, r2] at hB
    have hl := rawN_lt h
    have hv : v % 2 ^ n < 2 ^ n := Nat.mod_lt _ (Nat.two_pow_pos n)
    have e1 : num B % 2 ^ (e.rawC + n) % 2 ^ e.rawC = num B % 2 ^ e.rawC := Nat.mod_mod_of_dvd _ (Nat.pow_dvd_pow 2 (by omega))
    have e2 : num B % 2 ^ (e.rawC + n) / 2 ^ e.rawC = num B / 2 ^ e.rawC % 2 ^ n := by
      rw [Nat.pow_add, Nat.mod_mul_right_div_self]
    rw [hB] at e1 e2
    rw [Nat.add_mul_mod_self_right, Nat.mod_eq_of_lt hl] at e1
    rw [Nat.add_mul_div_right _ _ (Nat.two_pow_pos _), Nat.div_eq_of_lt hl, Nat.zero_add] at e2
    exact ⟨e1.symm, e2.symm⟩
  refine ⟨k4, fun B => ?_, key, fun B d hB ht hr => ?_⟩
  · unfold holds
    rw [show (e.raw n v).V = e.V from k1, show (e.raw n v).pos = e.pos from k2, show (e.raw n v).rng = e.rng from k3]
  · obtain ⟨t1, t2, t3, t4, t5⟩ := ht
    refine ⟨?_, t1, ?_, ?_, ?_, ?_⟩
    · rw [raw_read (by rw [t1]; exact hB), t1, t5]
      exact (key B hr).2
    · rw [show (e.raw n v).pos = e.pos from k2]
      exact t2
    · rw [show (e.raw n v).rng = e.rng from k3]
      exact t3
    · rw [show (e.raw n v).V = e.V from k1, show (e.raw n v).pos = e.pos from k2, show (e.raw n v).rng = e.rng from k3]
      exact t4
    · show d.rb + n = (e.raw n v).rawC
      rw [r2, t5]
      rfl

/-- A whole number. -/
theorem whole_rt {e : EncS} {N n v : Nat} (h : e.inv N) (hr : e.roomy) (hn : 2 ≤ n) (hn2 : n < 4294967296) (hv : v < n) :
    (e.whole n v).roomy ∧ (∀ B, rawOk B (e.whole n v) → rawOk B e) ∧ (∀ B, holds B (e.whole n v) → holds B e) ∧
      ∀ B d, (∀ x ∈ B, 0 ≤ x ∧ x < 256) → Rt B e d → rawOk B (e.whole n v) → holds B (e.whole n v) → (d.whole n).1 = v ∧ (d.whole n).2.1 = true ∧ Rt B (e.whole n v) (d.whole n).2.2 := by
  have h3 := len_le (n := n - 1) (k := 32) (by omega)
  by_cases hl : len (n - 1) ≤ 8
  · have he : e.whole n v = e.cum v (v + 1) n := if_pos hl
    have hs := small_of_len hl
    obtain ⟨a, b, c, f⟩ := cum_rt h hr (lo := v) (hi := v + 1) (n := n) (by omega) (by omega) (by omega)
    rw [he]
    refine ⟨a, b, c, fun B d hB ht _ hh => ?_⟩
    obtain ⟨q1, q2, q3⟩ := f B d hB ht hh
    have hd : d.whole n = (d.at n, true, d.uni n) := if_pos hl
    have hat : d.at n = v := by omega
    rw [hd]
    refine ⟨hat, rfl, ?_⟩
    show Rt B _ (d.uni n)
    unfold Dec.uni
    rw [hat]
    exact q3
  · obtain ⟨p1, p2⟩ := top_small (n := n - 1) (by omega)
    have hv2 : v / 2 ^ (len (n - 1) - 8) ≤ (n - 1) / 2 ^ (len (n - 1) - 8) := Nat.div_le_div_right (by omega)
    have he : e.whole n v = (e.cum (v / 2 ^ (len (n - 1) - 8)) (v / 2 ^ (len (n - 1) - 8) + 1) ((n - 1) / 2 ^ (len (n - 1) - 8) + 1)).raw (len (n - 1) - 8) (v % 2 ^ (len (n - 1) - 8)) := if_neg hl
    have hd : ∀ d : Dec, d.whole n = (if d.at ((n - 1) / 2 ^ (len (n - 1) - 8) + 1) * 2 ^ (len (n - 1) - 8) + (d.uni ((n - 1) / 2 ^ (len (n - 1) - 8) + 1)).raw (len (n - 1) - 8) ≤ n - 1 then d.at ((n - 1) / 2 ^ (len (n - 1) - 8) + 1) * 2 ^ (len (n - 1) - 8) + (d.uni ((n - 1) / 2 ^ (len (n - 1) - 8) + 1)).raw (len (n - 1) - 8) else n - 1, decide (d.at ((n - 1) / 2 ^ (len (n - 1) - 8) + 1) * 2 ^ (len (n - 1) - 8) + (d.uni ((n - 1) / 2 ^ (len (n - 1) - 8) + 1)).raw (len (n - 1) - 8) ≤ n - 1), (d.uni ((n - 1) / 2 ^ (len (n - 1) - 8) + 1)).rawOn (len (n - 1) - 8)) := fun d => if_neg hl
    obtain ⟨a, b, c, f⟩ := cum_rt h hr (lo := v / 2 ^ (len (n - 1) - 8)) (hi := v / 2 ^ (len (n - 1) - 8) + 1) (n := (n - 1) / 2 ^ (len (n - 1) - 8) + 1) (by omega) (by omega) (by omega)
    have hci : (e.cum (v / 2 ^ (len (n - 1) - 8)) (v / 2 ^ (len (n - 1) - 8) + 1) ((n - 1) / 2 ^ (len (n - 1) - 8) + 1)).inv (N + 3) := EncS.cum_inv h (by omega)
    have hdm := Nat.div_add_mod v (2 ^ (len (n - 1) - 8))
    rw [he]
    generalize (n - 1) / 2 ^ (len (n - 1) - 8) + 1 = t at *
    generalize hk : len (n - 1) - 8 = k at *
    generalize e.cum (v / 2 ^ k) (v / 2 ^ k + 1) t = g at *
    obtain ⟨r1, r2, r3, r4⟩ := raw_rt (n := k) (v := v % 2 ^ k) hci.ok
    refine ⟨r1 a, fun B hb => b B (r3 B hb).1, fun B hh => c B ((r2 B).1 hh), fun B d hB ht hb hh => ?_⟩
    obtain ⟨q1, q2, q3⟩ := f B d hB ht ((r2 B).1 hh)
    have hat : d.at t = v / 2 ^ k := by omega
    have hu : Rt B g (d.uni t) := by
      unfold Dec.uni
      rw [hat]
      exact q3
    obtain ⟨s1, s2⟩ := r4 B _ hB hu hb
    rw [Nat.mod_mod] at s1
    rw [hd d, s1, hat]
    rw [Nat.mul_comm] at hdm
    rw [hdm]
    exact ⟨if_pos (by omega), decide_eq_true (by omega), s2⟩

theorem ceil_bounds {a k : Nat} : a ≤ (a + (2 ^ k - 1)) / 2 ^ k * 2 ^ k ∧ (a + (2 ^ k - 1)) / 2 ^ k * 2 ^ k ≤ a + (2 ^ k - 1) := by
  have hp := Nat.two_pow_pos k
  have h1 := Nat.div_add_mod (a + (2 ^ k - 1)) (2 ^ k)
  have h2 := Nat.mod_lt (a + (2 ^ k - 1)) hp
  rw [Nat.mul_comm] at h1
  omega
theorem ends_spec {e : EncS} {N : Nat} (h : e.inv N) : e.low ≤ e.ends ∧ e.ends + 2 ^ e.cutK ≤ e.low + e.rng := by
  have hbig := h.big
  obtain ⟨q, k1, k2, k3⟩ := len_spec (n := e.rng) (by omega)
  have hq : 1 ≤ q := by
    have := le_len (n := e.rng) (k := 23) (by omega)
    omega
  have hK : e.cutK = if e.low + e.rng ≤ (e.low + (2 ^ q - 1)) / 2 ^ q * 2 ^ q + (2 ^ q - 1) then q - 1 else q := by
    unfold EncS.cutK
    rw [k1]
    rfl
  have hp : 2 ^ q = 2 * 2 ^ (q - 1) := by
    rw [← Nat.pow_succ']
    congr 1
    omega
  have hpos := Nat.two_pow_pos (q - 1)
  unfold EncS.ends
  rw [hK]
  split
  · rename_i c
    have := ceil_bounds (a := e.low) (k := q - 1)
    omega
  · rename_i c
    have := ceil_bounds (a := e.low) (k := q)
    omega

theorem outIter_num {e : EncS} {N : Nat} (h : e.inv N) (hr : e.roomy) : ∀ k, k ≤ e.outs →
    (e.outIter e.ends k).1.fr * 2147483648 + (e.outIter e.ends k).2 = (e.fr * 2147483648 + e.ends) * 256 ^ k ∧ (e.outIter e.ends k).1.cnt = e.cnt + k ∧
      -1 ≤ (e.outIter e.ends k).1.rem ∧ (e.outIter e.ends k).1.rem < 256 ∧ (e.outIter e.ends k).2 + min (2 ^ e.cutK * 256 ^ k) 2147483648 ≤ 4294967295 ∧
      (2 ^ e.cutK * 256 ^ k ≤ 2147483648 → (e.outIter e.ends k).1.room (e.outIter e.ends k).2 (2 ^ e.cutK * 256 ^ k))
  | 0, _ => by
    obtain ⟨h1, h2⟩ := ends_spec h
    have hp := h.ok.plain
    have hlow := h.ok.low
    rw [Nat.pow_zero, Nat.mul_one, Nat.mul_one]
    refine ⟨rfl, rfl, hp.1, hp.2.1, ?_, fun _ hc => ?_⟩
    · show e.ends + _ ≤ _
      omega
    · have := hr hc
      show e.ends + 2 ^ e.cutK ≤ _
      omega
  | k + 1, hk => by
    obtain ⟨a, b, c, d, f, g⟩ := outIter_num h hr k (by omega)
    obtain ⟨q1, q2, _⟩ := EncS.cutK_spec h
    have ho : e.outs = (31 - e.cutK + 7) / 8 := rfl
    have hp : 2 ^ e.cutK * 256 ^ k ≤ 2 ^ 30 := by
      rw [pow256, ← Nat.pow_add]
      exact Nat.pow_le_pow_right (by omega) (by omega)
    have hp1 : 1 ≤ 2 ^ e.cutK * 256 ^ k := Nat.mul_pos (Nat.two_pow_pos _) (Nat.pow_pos (by omega))
    obtain ⟨w1, w2, w3, w4⟩ := carry_win (e := (e.outIter e.ends k).1) (n := (e.outIter e.ends k).2) (m := 2 ^ e.cutK * 256 ^ k) c d (by omega) hp1 (g (by omega))
    have hm : 2 ^ e.cutK * 256 ^ (k + 1) = 2 ^ e.cutK * 256 ^ k * 256 := by rw [Nat.pow_succ, Nat.mul_assoc]
    refine ⟨?_, ?_, w3, w4, ?_, ?_⟩
    · show ((e.outIter e.ends k).1.carry _).fr * 2147483648 + _ = _
      rw [Nat.pow_succ, ← Nat.mul_assoc, ← a]
      exact w1
    · show ((e.outIter e.ends k).1.carry _).cnt = _
      rw [carry_cnt, b]
      omega
    · show (e.outIter e.ends k).2 * 256 % 2147483648 + _ ≤ _
      omega
    · rw [hm]
      exact w2
theorem flush_num {e : EncS} {N : Nat} (h : e.inv N) (hr : e.roomy) : e.flush.fr * 2147483648 = (e.fr * 2147483648 + e.ends) * 256 ^ e.outs ∧ e.flush.cnt = e.cnt + e.outs ∧ -1 ≤ e.flush.rem ∧ e.flush.rem < 256 := by
  obtain ⟨a, b, c, d, f, g⟩ := outIter_num h hr e.outs (Nat.le_refl _)
  obtain ⟨q1, q2, _⟩ := EncS.cutK_spec h
  obtain ⟨h1, h2⟩ := ends_spec h
  have hlow := h.ok.low
  have ho : e.outs = (31 - e.cutK + 7) / 8 := rfl
  refine ⟨?_, b, c, d⟩
  show (e.outIter e.ends e.outs).1.fr * 2147483648 = _
  have hlt : (e.outIter e.ends e.outs).2 < 2147483648 := by
    rcases hk : e.outs with _ | k
    · show e.ends < _
      have hK : e.cutK = 31 := by omega
      rw [hK] at h2
      omega
    · show (e.outIter e.ends k).2 * 256 % 2147483648 < _
      omega
  have hz : (e.outIter e.ends e.outs).2 % 2147483648 = 0 := by
    have e1 : ((e.outIter e.ends e.outs).1.fr * 2147483648 + (e.outIter e.ends e.outs).2) % 2147483648 = (e.outIter e.ends e.outs).2 % 2147483648 := by omega
    have hE : e.ends = (e.low + (2 ^ e.cutK - 1)) / 2 ^ e.cutK * 2 ^ e.cutK := rfl
    rw [← e1, a, hE]
    generalize (e.low + (2 ^ e.cutK - 1)) / 2 ^ e.cutK = z
    have hk : e.cutK + 8 * e.outs - 31 + 31 = e.cutK + 8 * e.outs := by omega
    have e3 : 2 ^ e.cutK * 2 ^ (8 * e.outs) = 2 ^ (e.cutK + 8 * e.outs - 31) * 2147483648 := by
      rw [← Nat.pow_add, ← hk, Nat.pow_add, hk]
    have e4 : (e.fr * 2147483648 + z * 2 ^ e.cutK) * 256 ^ e.outs = (e.fr * 2 ^ (8 * e.outs) + z * 2 ^ (e.cutK + 8 * e.outs - 31)) * 2147483648 := by
      rw [pow256, Nat.add_mul, Nat.add_mul, Nat.mul_assoc z, e3, Nat.mul_right_comm, Nat.mul_assoc z]
    rw [e4]
    exact Nat.mul_mod_left _ _
  have hz0 : (e.outIter e.ends e.outs).2 = 0 := by
    rw [← Nat.mod_eq_of_lt hlt]
    exact hz
  rw [hz0, Nat.add_zero] at a
  exact a
theorem last_num {e : EncS} {N : Nat} (h : e.inv N) (hr : e.roomy) : num e.last.buf * 2147483648 = (e.fr * 2147483648 + e.ends) * 256 ^ e.outs ∧ e.last.buf.length = e.cnt + e.outs := by
  obtain ⟨a, b, c, d⟩ := flush_num h hr
  rw [← a, ← b]
  unfold EncS.last
  split
  · rename_i hc
    have h1 : (e.flush.carry 0).fr = e.flush.fr * 256 + 0 := carry_fr c d (by omega) (fun h => by omega)
    have h2 : (e.flush.carry 0).cnt = e.flush.cnt + 1 := carry_cnt 0
    have h3 : (e.flush.carry 0).rem = 0 := rfl
    have h4 : (e.flush.carry 0).ext = 0 := rfl
    unfold EncS.fr at h1
    unfold EncS.cnt at h2
    rw [h3, h4] at h1 h2
    simp only [Int.le_refl, if_true, Nat.pow_zero, Nat.mul_one, Nat.sub_self, Nat.add_zero, Int.toNat_zero] at h1 h2
    have hf : e.flush.fr = (if 0 ≤ e.flush.rem then num e.flush.buf * 256 + e.flush.rem.toNat else num e.flush.buf) * 256 ^ e.flush.ext + (256 ^ e.flush.ext - 1) := rfl
    have hcn : e.flush.cnt = (if 0 ≤ e.flush.rem then e.flush.buf.length + 1 else e.flush.buf.length) + e.flush.ext := rfl
    rw [← hf] at h1
    rw [← hcn] at h2
    clear a b c d hf hcn h3 h4 hc
    generalize num (e.flush.carry 0).buf = x at *
    generalize (e.flush.carry 0).buf.length = y at *
    generalize e.flush.fr = z at *
    generalize e.flush.cnt = w at *
    constructor <;> omega
  · rename_i hc
    have h1 : ¬ 0 ≤ e.flush.rem := fun x => hc (.inl x)
    have h2 : e.flush.ext = 0 := by omega
    unfold EncS.fr EncS.cnt
    rw [if_neg h1, if_neg h1, h2]
    simp

theorem last_split {e : EncS} {N : Nat} (h : e.inv N) (hr : e.roomy) : 8 * e.outs = (31 - e.cutK) + e.free ∧ e.free ≤ 7 ∧ ∃ y, num e.last.buf = y * 2 ^ e.free := by
  obtain ⟨a, b⟩ := last_num h hr
  obtain ⟨q1, q2, _⟩ := EncS.cutK_spec h
  have ho : e.outs = (31 - e.cutK + 7) / 8 := rfl
  have hl : e.left = ((31 - e.cutK : Nat) : Int) - ((8 * e.outs : Nat) : Int) := rfl
  have hfree : e.free = (-e.left).toNat := rfl
  have h8 : 8 * e.outs = (31 - e.cutK) + e.free := by omega
  refine ⟨h8, by omega, ?_⟩
  have hE : e.ends = (e.low + (2 ^ e.cutK - 1)) / 2 ^ e.cutK * 2 ^ e.cutK := rfl
  rw [hE] at a
  generalize (e.low + (2 ^ e.cutK - 1)) / 2 ^ e.cutK = z at *
  refine ⟨e.fr * 2 ^ (31 - e.cutK) + z, ?_⟩
  have e1 : (e.fr * 2147483648 + z * 2 ^ e.cutK) * 256 ^ e.outs = ((e.fr * 2 ^ (31 - e.cutK) + z) * 2 ^ e.free) * 2147483648 := by
    rw [pow256, h8, Nat.pow_add]
    have e2 : (2147483648 : Nat) = 2 ^ e.cutK * 2 ^ (31 - e.cutK) := by
      rw [← Nat.pow_add, show e.cutK + (31 - e.cutK) = 31 by omega]
    rw [e2]
    generalize 2 ^ e.cutK = A
    generalize 2 ^ (31 - e.cutK) = C
    generalize 2 ^ e.free = G
    generalize e.fr = f
    rw [Nat.add_mul, Nat.add_mul, Nat.add_mul]
    congr 1
    · rw [← Nat.mul_assoc, ← Nat.mul_assoc, ← Nat.mul_assoc, Nat.mul_right_comm (f * A * C) C G]
      rw [Nat.mul_right_comm (f * A) C G, Nat.mul_right_comm f A G]
      rw [Nat.mul_right_comm (f * G * A) C C, Nat.mul_right_comm (f * G) A C, Nat.mul_right_comm f G C]
    · rw [← Nat.mul_assoc, Nat.mul_assoc (z * A) C G, Nat.mul_comm C G, ← Nat.mul_assoc, Nat.mul_right_comm z A G, ← Nat.mul_assoc]
  rw [e1] at a
  exact Nat.eq_of_mul_eq_mul_right (by omega) a

theorem done_split {e : EncS} {N : Nat} (h : e.inv N) (hr : e.roomy) : (∀ x ∈ e.done, 0 ≤ x ∧ x < 256) ∧
    ∃ D, e.done.length = e.last.buf.length + D ∧ num e.done = num e.last.buf * 256 ^ D + e.rawN ∧ e.rawN < 2 ^ e.free * 256 ^ D ∧ 2 ^ e.rawC ∣ num e.last.buf * 256 ^ D := by
  obtain ⟨s1, s2, y, s3⟩ := last_split h hr
  obtain ⟨_, b, c, d, hb⟩ := EncS.last_facts h
  have hw := h.ok.win
  have hn := h.ok.nend
  have htb := h.ok.tb
  have hrl := rawN_lt h.ok
  have hm : e.last.more e.free = bif decide (0 < e.last.nend) then (bif decide (e.last.buf.length = 0) then true else decide (e.free < e.last.nend)) else false := rfl
  have hdn : e.done = if e.last.nend = 0 then e.base else bif e.last.more e.free then e.base.set e.last.buf.length e.last.win else e.base.set (e.last.buf.length - 1) (((e.base.getD (e.last.buf.length - 1) 0).toNat ||| e.last.win : Nat) : Int) := rfl
  have hbs : e.base = e.last.buf ++ List.replicate (bif e.last.more e.free then 1 else 0) 0 ++ e.last.tail.reverse := rfl
  have hRN : e.rawN = num e.tail.reverse + e.win * 256 ^ e.tail.length := rfl
  have hRC : e.rawC = 8 * e.tail.length + e.nend := rfl
  have htr : ∀ x ∈ e.tail.reverse, 0 ≤ x ∧ x < 256 := fun x hx => htb x (List.mem_reverse.1 hx)
  have hwb : e.win < 2 ^ 7 := Nat.lt_of_lt_of_le hw (Nat.pow_le_pow_right (by omega) hn)
  have hnt := num_lt htr
  rw [List.length_reverse] at hnt
  rw [hdn, hbs]
  rw [b, c, d]
  rw [d] at hm
  generalize e.last.more e.free = mo at *
  generalize e.last.buf = F at *
  generalize e.rawN = RN at *
  generalize e.rawC = RC at *
  generalize e.tail = T at *
  generalize e.win = W at *
  generalize e.nend = n at *
  generalize e.free = fr at *
  clear hdn hbs b c d
  by_cases c0 : n = 0
  · subst c0
    rw [if_pos rfl]
    obtain rfl : mo = false := hm
    rw [show F ++ List.replicate (bif false then 1 else 0) 0 ++ T.reverse = F ++ T.reverse by show F ++ [] ++ T.reverse = _; rw [List.append_nil]]
    have hW : W = 0 := by omega
    subst hW
    refine ⟨fun x hx => ?_, T.length, ?_, ?_, ?_, ?_⟩
    · rcases List.mem_append.1 hx with hx | hx
      · exact hb x hx
      · exact htr x hx
    · rw [List.length_append, List.length_reverse]
    · rw [num_append, List.length_reverse, hRN, Nat.zero_mul, Nat.add_zero]
    · rw [hRN, Nat.zero_mul, Nat.add_zero]
      exact Nat.lt_of_lt_of_le hnt (Nat.le_mul_of_pos_left _ (Nat.two_pow_pos _))
    · rw [hRC, Nat.add_zero, pow256]
      exact Nat.dvd_mul_left ..
  · rw [if_neg c0]
    rw [decide_eq_true (by omega)] at hm
    cases mo with
    | true =>
      show (∀ x ∈ (F ++ [0] ++ T.reverse).set F.length W, _) ∧ ∃ D, ((F ++ [0] ++ T.reverse).set F.length W).length = _ ∧ num ((F ++ [0] ++ T.reverse).set F.length W) = _ ∧ _
      have hset : (F ++ [0] ++ T.reverse).set F.length (W : Int) = F ++ ([(W : Int)] ++ T.reverse) := by
        rw [List.append_assoc, List.set_append_right _ _ (Nat.le_refl _), Nat.sub_self]
        rfl
      rw [hset]
      refine ⟨fun x hx => ?_, T.length + 1, ?_, ?_, ?_, ?_⟩
      · rcases List.mem_append.1 hx with hx | hx
        · exact hb x hx
        · rcases List.mem_append.1 hx with hx | hx
          · rw [List.mem_singleton.1 hx]
            omega
          · exact htr x hx
      · rw [List.length_append, List.length_append, List.length_reverse, List.length_singleton]
        omega
      · rw [num_append, num_append, num_one, List.length_append, List.length_reverse, List.length_singleton, hRN, Int.toNat_natCast, Nat.add_comm 1]
        omega
      · rw [hRN, Nat.pow_succ]
        have h1 := Nat.mul_le_mul_right (256 ^ T.length) (show W + 1 ≤ 128 by omega)
        have h2 : 256 ^ T.length * 256 ≤ 2 ^ fr * (256 ^ T.length * 256) := Nat.le_mul_of_pos_left _ (Nat.two_pow_pos _)
        rw [Nat.add_mul, Nat.one_mul] at h1
        omega
      · rw [hRC, pow256]
        exact Nat.dvd_trans (Nat.pow_dvd_pow 2 (by omega)) (Nat.dvd_mul_left ..)
    | false =>
      show (∀ x ∈ (F ++ [] ++ T.reverse).set (F.length - 1) ((((F ++ [] ++ T.reverse).getD (F.length - 1) 0).toNat ||| W : Nat) : Int), _) ∧ ∃ D, ((F ++ [] ++ T.reverse).set (F.length - 1) ((((F ++ [] ++ T.reverse).getD (F.length - 1) 0).toNat ||| W : Nat) : Int)).length = _ ∧ num ((F ++ [] ++ T.reverse).set (F.length - 1) ((((F ++ [] ++ T.reverse).getD (F.length - 1) 0).toNat ||| W : Nat) : Int)) = _ ∧ _
      rw [List.append_nil]
      rcases List.eq_nil_or_concat F with rfl | ⟨A, x, rfl⟩
      · rw [List.length_nil, decide_eq_true rfl] at hm
        cases hm
      rw [List.concat_eq_append] at *
      have hlen : (A ++ [x]).length = A.length + 1 := by rw [List.length_append, List.length_singleton]
      rw [decide_eq_false (by rw [hlen]; omega)] at hm
      have hnf : n ≤ fr := by
        have := of_decide_eq_false hm.symm
        omega
      have hx := hb x (List.mem_append_right _ (List.mem_singleton.2 rfl))
      have hget : (A ++ [x] ++ T.reverse).getD ((A ++ [x]).length - 1) 0 = x := by
        rw [hlen, Nat.add_sub_cancel, List.getD_eq_getElem?_getD, List.append_assoc, List.getElem?_append_right (Nat.le_refl _), Nat.sub_self]
        rfl
      have hset : ∀ z : Int, (A ++ [x] ++ T.reverse).set ((A ++ [x]).length - 1) z = A ++ [z] ++ T.reverse := by
        intro z
        rw [hlen, Nat.add_sub_cancel, List.append_assoc, List.set_append_right _ _ (Nat.le_refl _), Nat.sub_self, List.append_assoc]
        rfl
      rw [hget, hset]
      have hWf : W < 2 ^ fr := Nat.lt_of_lt_of_le hw (Nat.pow_le_pow_right (by omega) hnf)
      have hxm : x.toNat % 2 ^ fr = 0 := by
        rw [num_snoc] at s3
        have e1 : (num A * 256 + x.toNat) % 2 ^ fr = x.toNat % 2 ^ fr := by
          rw [show (256 : Nat) = 2 ^ (8 - fr) * 2 ^ fr by rw [← Nat.pow_add, show 8 - fr + fr = 8 by omega], ← Nat.mul_assoc, Nat.mul_add_mod_self_right]
        rw [← e1, s3]
        exact Nat.mul_mod_left _ _
      have hor : x.toNat ||| W = x.toNat + W := by
        have hd := Nat.div_add_mod x.toNat (2 ^ fr)
        rw [hxm, Nat.add_zero, Nat.mul_comm] at hd
        rw [← hd]
        exact nor_add hWf
      have hxw : x.toNat + W < 256 := by
        rw [← hor]
        exact Nat.or_lt_two_pow (n := 8) (by omega) (by omega)
      rw [hor]
      refine ⟨fun z hz => ?_, T.length, ?_, ?_, ?_, ?_⟩
      · rcases List.mem_append.1 hz with hz | hz
        · rcases List.mem_append.1 hz with hz | hz
          · exact hb z (List.mem_append_left _ hz)
          · rw [List.mem_singleton.1 hz]
            omega
        · exact htr z hz
      · rw [List.length_append, List.length_reverse, List.length_append, List.length_append, List.length_singleton, List.length_singleton]
      · rw [num_append, num_snoc, num_snoc, List.length_reverse, hRN, Int.toNat_natCast, ← Nat.add_assoc, Nat.add_mul _ W]
        omega
      · rw [hRN]
        have h1 := Nat.mul_le_mul_right (256 ^ T.length) (Nat.succ_le_of_lt hWf)
        rw [Nat.succ_mul] at h1
        omega
      · rw [hRC, s3, pow256, Nat.mul_assoc, ← Nat.pow_add]
        exact Nat.dvd_trans (Nat.pow_dvd_pow 2 (by omega)) (Nat.dvd_mul_left ..)
/-- The bytes lie in the writer's range, and hold its raw bits. -/
theorem done_ends {e : EncS} {N : Nat} (h : e.inv N) (hr : e.roomy) : (∀ x ∈ e.done, 0 ≤ x ∧ x < 256) ∧ holds e.done e ∧ rawOk e.done e := by
  obtain ⟨hb, D, d1, d2, d3, d4⟩ := done_split h hr
  obtain ⟨a, b⟩ := last_num h hr
  obtain ⟨s1, s2, _⟩ := last_split h hr
  obtain ⟨q1, q2, _⟩ := EncS.cutK_spec h
  obtain ⟨e1, e2⟩ := ends_spec h
  refine ⟨hb, ?_, ?_⟩
  · have hpe : e.pos = 31 + 8 * e.cnt := rfl
    have hV : e.V = e.fr * 2147483648 + e.low := rfl
    have hY : num e.last.buf * 256 ^ D * 2 ^ e.pos = (e.fr * 2147483648 + e.ends) * 2 ^ (8 * e.done.length) := by
      rw [hpe, d1, b, Nat.pow_add, ← Nat.mul_assoc, Nat.mul_right_comm (num e.last.buf) (256 ^ D) (2 ^ 31), show (2 : Nat) ^ 31 = 2147483648 by decide, a, pow256, pow256]
      rw [Nat.mul_assoc, Nat.mul_assoc, ← Nat.pow_add, ← Nat.pow_add, show 8 * e.outs + (8 * D + 8 * e.cnt) = 8 * (e.cnt + e.outs + D) by omega]
    have hlo : e.fr * 2147483648 + e.ends ≤ cod e.done e.pos := by
      unfold cod
      rw [Nat.le_div_iff_mul_le (Nat.two_pow_pos _), ← hY, d2, Nat.add_mul]
      omega
    have hhi : cod e.done e.pos < e.fr * 2147483648 + e.ends + 2 ^ e.cutK := by
      unfold cod
      rw [Nat.div_lt_iff_lt_mul (Nat.two_pow_pos _), d2, Nat.add_mul _ e.rawN, Nat.add_mul _ (2 ^ e.cutK), ← hY]
      have e3 : 2 ^ e.cutK * 2 ^ (8 * e.done.length) = 2 ^ e.free * 256 ^ D * 2 ^ e.pos := by
        rw [pow256, ← Nat.pow_add, ← Nat.pow_add, ← Nat.pow_add, hpe, d1, b, show e.cutK + 8 * (e.cnt + e.outs + D) = e.free + 8 * D + (31 + 8 * e.cnt) by omega]
      rw [e3]
      have := (Nat.mul_lt_mul_right (Nat.two_pow_pos e.pos)).2 d3
      omega
    unfold holds
    rw [hV]
    omega
  · unfold rawOk
    rw [d2]
    obtain ⟨z, hz⟩ := d4
    rw [hz, Nat.mul_add_mod, Nat.mod_eq_of_lt (rawN_lt h.ok)]
/-! The beginning -/
theorem init_iter {B : List Int} (hB : ∀ x ∈ B, 0 ≤ x ∧ x < 256) : ∀ j, j ≤ 3 → ((Dec.init0 B).iter j).data = B ∧ ((Dec.init0 B).iter j).br = min (7 + 8 * j) (8 * B.length) ∧ ((Dec.init0 B).iter j).rng = 128 * 256 ^ j ∧ ((Dec.init0 B).iter j).val + 1 + cod B (7 + 8 * j) = 128 * 256 ^ j ∧ ((Dec.init0 B).iter j).rb = 0
  | 0, _ => by
    have h7 : (Dec.raw0 B).bits 7 = cod B (0 + 7) % 2 ^ 7 := Dec.bits_num (d := Dec.raw0 B) (p := 0) hB (by omega) (by show 0 = min 0 _; omega)
    have hc := cod_lt hB 7
    rw [Nat.zero_add, Nat.mod_eq_of_lt hc] at h7
    refine ⟨rfl, ?_, rfl, ?_, rfl⟩
    · show (if 0 + 7 ≤ 8 * B.length then 0 + 7 else max 0 (8 * B.length)) = _
      split <;> omega
    · show 127 - (Dec.raw0 B).bits 7 + 1 + cod B 7 = 128
      rw [h7]
      omega
  | j + 1, hj => by
    obtain ⟨t1, t2, t3, t4, t5⟩ := init_iter hB j (by omega)
    have hb : ((Dec.init0 B).iter j).bits 8 = cod B (7 + 8 * j + 8) % 256 := by
      have := Dec.bits_num (d := (Dec.init0 B).iter j) (p := 7 + 8 * j) (n := 8) (by rw [t1]; exact hB) (by omega) (by rw [t1]; exact t2)
      rw [t1] at this
      exact this
    have hcs := cod_step B (7 + 8 * j) 8
    have hp : 256 ^ j ≤ 256 ^ 2 := Nat.pow_le_pow_right (by omega) (by omega)
    refine ⟨t1, ?_, ?_, ?_, t5⟩
    · show (if ((Dec.init0 B).iter j).br + 8 ≤ 8 * ((Dec.init0 B).iter j).data.length then ((Dec.init0 B).iter j).br + 8 else max ((Dec.init0 B).iter j).br (8 * ((Dec.init0 B).iter j).data.length)) = _
      rw [t1, t2]
      split <;> omega
    · show ((Dec.init0 B).iter j).rng * 256 = _
      rw [t3, Nat.pow_succ, Nat.mul_assoc]
    · show (((Dec.init0 B).iter j).val * 256 + (255 - ((Dec.init0 B).iter j).bits 8)) % 2147483648 + 1 + cod B (7 + 8 * j + 8) = _
      rw [hb, Nat.pow_succ]
      omega
theorem init_rt {B : List Int} (hB : ∀ x ∈ B, 0 ≤ x ∧ x < 256) : Rt B EncS.init (Dec.init B) := by
  have hi := init_iter hB
  have e : Dec.init B = (Dec.init0 B).iter 3 := by
    unfold Dec.init
    refine Dec.norm_iter (Nat.le_refl _) (fun i hi' => ?_) ?_
    · rw [(hi i (by omega)).2.2.1]
      obtain rfl | rfl | rfl : i = 0 ∨ i = 1 ∨ i = 2 := by omega
      all_goals decide
    · rw [(hi 3 (by omega)).2.2.1]
      decide
  obtain ⟨t1, t2, t3, t4, t5⟩ := hi 3 (by omega)
  rw [e]
  exact ⟨t1, t2, t3, t4, t5⟩
theorem init_roomy : EncS.init.roomy := fun _ => by decide
/-- A script that was written is read as it was meant. -/
theorem done_len {e : EncS} {N : Nat} (h : e.inv N) : e.done.length ≤ 5 * N + 8 := by
  obtain ⟨a, b, _⟩ := EncS.last_facts h
  have ht := h.ok.tail
  have h3 := a.2.2
  have hb : e.base.length ≤ 5 * N + 8 := by
    unfold EncS.base
    rw [List.length_append, List.length_append, List.length_reverse, List.length_replicate, b]
    cases e.last.more e.free
    · show _ + 0 + _ ≤ _
      omega
    · show _ + 1 + _ ≤ _
      omega
  unfold EncS.done
  split
  · exact hb
  · cases e.last.more e.free
    · show (e.base.set _ _).length ≤ _
      rw [List.length_set]
      exact hb
    · show (e.base.set _ _).length ≤ _
      rw [List.length_set]
      exact hb
theorem bytes_str {l : List Int} (h : ∀ x ∈ l, 0 ≤ x ∧ x < 256) : bytesOf (strOf l) = l := by
  have key : ∀ (l : List Int) (r : ByteArray), (l.foldl (fun r n => r.push (UInt8.ofNat n.toNat)) r).data.toList = r.data.toList ++ l.map fun n => UInt8.ofNat n.toNat := by
    intro l
    induction l with
    | nil => intro r; simp
    | cons x t ih =>
      intro r
      rw [List.foldl_cons, ih, ByteArray.data_push, Array.toList_push, List.append_assoc]
      rfl
  unfold bytesOf strOf
  rw [key]
  show (([] : List UInt8) ++ _).map _ = _
  rw [List.nil_append, List.map_map]
  refine (List.map_congr_left (g := id) fun x hx => ?_).trans (List.map_id _)
  obtain ⟨h1, h2⟩ := h x hx
  show ((UInt8.ofNat x.toNat).toNat : Int) = x
  rw [UInt8.toNat_ofNat']
  omega

/-! Symbols that are chosen evenly, one behind the other -/
def EncS.wholes (e : EncS) : List (Nat × Nat) → EncS
  | [] => e
  | x :: r => (e.whole x.1 x.2).wholes r
def wholeOk (l : List (Nat × Nat)) : Prop := ∀ x ∈ l, 2 ≤ x.1 ∧ x.1 < 4294967296 ∧ x.2 < x.1
def readsBack (d : Dec) : List (Nat × Nat) → Prop
  | [] => True
  | x :: r => (d.whole x.1).1 = x.2 ∧ readsBack (d.whole x.1).2.2 r
theorem wholes_inv {l : List (Nat × Nat)} : ∀ {e : EncS} {N : Nat}, e.inv N → wholeOk l → (e.wholes l).inv (N + 4 * l.length) := by
  induction l with
  | nil => intro e N h _; exact h
  | cons x r ih =>
    intro e N h hl
    obtain ⟨h1, h2, h3⟩ := hl x (List.mem_cons_self ..)
    have := ih (EncS.whole_inv (n := x.1) (v := x.2) h (by omega) h2) fun y hy => hl y (List.mem_cons_of_mem _ hy)
    rw [List.length_cons, show N + 4 * (r.length + 1) = N + 4 + 4 * r.length by omega]
    exact this
theorem wholes_roomy {l : List (Nat × Nat)} : ∀ {e : EncS} {N : Nat}, e.inv N → e.roomy → wholeOk l → (e.wholes l).roomy := by
  induction l with
  | nil => intro e N _ h _; exact h
  | cons x r ih =>
    intro e N h hr hl
    obtain ⟨h1, h2, h3⟩ := hl x (List.mem_cons_self ..)
    exact ih (EncS.whole_inv h (by omega) h2) (whole_rt h hr h1 h2 h3).1 fun y hy => hl y (List.mem_cons_of_mem _ hy)
theorem wholes_ends {B : List Int} {l : List (Nat × Nat)} : ∀ {e : EncS} {N : Nat}, e.inv N → e.roomy → wholeOk l → holds B (e.wholes l) → rawOk B (e.wholes l) → holds B e ∧ rawOk B e := by
  induction l with
  | nil => intro e N _ _ _ h1 h2; exact ⟨h1, h2⟩
  | cons x r ih =>
    intro e N h hr hl h1 h2
    obtain ⟨g1, g2, g3⟩ := hl x (List.mem_cons_self ..)
    obtain ⟨a, b, c, _⟩ := whole_rt h hr g1 g2 g3
    obtain ⟨q1, q2⟩ := ih (EncS.whole_inv h (by omega) g2) a (fun y hy => hl y (List.mem_cons_of_mem _ hy)) h1 h2
    exact ⟨c B q1, b B q2⟩
theorem wholes_reads {B : List Int} (hB : ∀ x ∈ B, 0 ≤ x ∧ x < 256) {l : List (Nat × Nat)} : ∀ {e : EncS} {d : Dec} {N : Nat}, e.inv N → e.roomy → wholeOk l → holds B (e.wholes l) → rawOk B (e.wholes l) → Rt B e d → readsBack d l := by
  induction l with
  | nil => intro e d N _ _ _ _ _ _; trivial
  | cons x r ih =>
    intro e d N h hr hl h1 h2 ht
    obtain ⟨g1, g2, g3⟩ := hl x (List.mem_cons_self ..)
    obtain ⟨a, b, c, f⟩ := whole_rt h hr g1 g2 g3
    have hl2 : wholeOk r := fun y hy => hl y (List.mem_cons_of_mem _ hy)
    have hi2 := EncS.whole_inv (v := x.2) h (by omega) g2
    obtain ⟨q1, q2⟩ := wholes_ends hi2 a hl2 h1 h2
    obtain ⟨p1, p2, p3⟩ := f B d hB ht q2 q1
    exact ⟨p1, ih hi2 a hl2 h1 h2 p3⟩
theorem wholes_back {l : List (Nat × Nat)} (hl : wholeOk l) : (∀ x ∈ (EncS.init.wholes l).done, 0 ≤ x ∧ x < 256) ∧ readsBack (Dec.init (EncS.init.wholes l).done) l := by
  have hinv := wholes_inv EncS.init_inv hl
  have hr := wholes_roomy EncS.init_inv init_roomy hl
  obtain ⟨hB, h1, h2⟩ := done_ends hinv hr
  exact ⟨hB, wholes_reads hB EncS.init_inv init_roomy hl h1 h2 (init_rt hB)⟩
end Go.Proofs.YtkomikpfnogjcaaDoor

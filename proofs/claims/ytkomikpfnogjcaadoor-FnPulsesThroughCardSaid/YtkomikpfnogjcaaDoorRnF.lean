/- The encoder puts out what is left. -/
import Derived.Test.YtkomikpfnogjcaaDoorRnE
namespace Go.Proofs.YtkomikpfnogjcaaDoor
open Go Go.Vc
set_option maxRecDepth 100000

/-- How many bits of the end are free. -/
def EncS.cutK (e : EncS) : Nat :=
  if e.low + e.rng ≤ (e.low + (2 ^ (len e.rng - 1) - 1)) / 2 ^ (len e.rng - 1) * 2 ^ (len e.rng - 1) + (2 ^ (len e.rng - 1) - 1) then len e.rng - 2 else len e.rng - 1
def EncS.ends (e : EncS) : Nat := (e.low + (2 ^ e.cutK - 1)) / 2 ^ e.cutK * 2 ^ e.cutK
def EncS.outIter (e : EncS) (n : Nat) : Nat → EncS × Nat
  | 0 => (e, n)
  | k + 1 => ((e.outIter n k).1.carry ((e.outIter n k).2 / 8388608), (e.outIter n k).2 * 256 % 2147483648)
def EncS.outs (e : EncS) : Nat := (31 - e.cutK + 7) / 8
def EncS.flush (e : EncS) : EncS := (e.outIter e.ends e.outs).1
def EncS.left (e : EncS) : Int := ((31 - e.cutK : Nat) : Int) - ((8 * e.outs : Nat) : Int)

theorem nandnot_nat {a k : Nat} (ha : a < 4294967296) (hk : k ≤ 32) : a &&& (4294967295 - (2 ^ k - 1)) = a / 2 ^ k * 2 ^ k := by
  have hp : 2 ^ k ≤ 2 ^ 32 := Nat.pow_le_pow_right (by omega) hk
  have hp0 : 1 ≤ 2 ^ k := Nat.one_le_two_pow
  have e1 : 4294967295 - (2 ^ k - 1) = 2 ^ 32 - ((2 ^ k - 1) + 1) := by omega
  rw [e1]
  refine Nat.eq_of_testBit_eq fun i => ?_
  rw [Nat.testBit_and, Nat.testBit_two_pow_sub_succ (by omega), Nat.testBit_two_pow_sub_one, Nat.mul_comm, Nat.testBit_two_pow_mul, Nat.testBit_div_two_pow]
  rcases Nat.lt_or_ge i k with h | h
  · simp [h, Nat.not_le.2 h]
  · rcases Nat.lt_or_ge i 32 with h2 | h2
    · have e2 : i - k + k = i := by omega
      simp [h, h2, Nat.not_lt.2 h, e2]
    · have : a.testBit i = false := Nat.testBit_lt_two_pow (Nat.lt_of_lt_of_le ha (Nat.pow_le_pow_right (n := 2) (by omega) h2))
      have e2 : i - k + k = i := by omega
      simp [this, e2]
theorem nandnot {a k : Nat} (ha : a < 4294967296) (hk : k ≤ 32) : IntKind.u32.wrap (((BitVec.ofInt IntKind.u32.bits (a : Int) &&& ~~~BitVec.ofInt IntKind.u32.bits ((2 ^ k - 1 : Nat) : Int)).toNat : Nat) : Int) = ((a / 2 ^ k * 2 ^ k : Nat) : Int) := by
  have hp : 2 ^ k ≤ 2 ^ 32 := Nat.pow_le_pow_right (by omega) hk
  have hp0 : 1 ≤ 2 ^ k := Nat.one_le_two_pow
  have hle : a / 2 ^ k * 2 ^ k ≤ a := Nat.div_mul_le_self _ _
  rw [ofInt_nat, ofInt_nat, BitVec.toNat_and, BitVec.toNat_not, BitVec.toNat_ofNat, BitVec.toNat_ofNat]
  rw [Nat.mod_eq_of_lt (by simpa [IntKind.bits] using ha), Nat.mod_eq_of_lt (show 2 ^ k - 1 < 2 ^ IntKind.u32.bits by show _ < 2 ^ 32; omega)]
  show IntKind.u32.wrap ((a &&& (2 ^ 32 - 1 - (2 ^ k - 1)) : Nat) : Int) = _
  rw [show 2 ^ 32 - 1 - (2 ^ k - 1) = 4294967295 - (2 ^ k - 1) by omega, nandnot_nat ha hk, nwrap32 (by omega)]

theorem maskK : ∀ k : _root_.Fin 32, 23 ≤ k.1 → 2147483647 / 2 ^ (31 - k.1) = 2 ^ k.1 - 1 := by decide
theorem EncS.outIter_facts {e : EncS} {N n : Nat} (h : e.plain N) (hn : n < 4294967296) : ∀ k, (e.outIter n k).1.plain (N + k) ∧ (e.outIter n k).2 < 4294967296
  | 0 => ⟨h, hn⟩
  | k + 1 => ⟨EncS.carry_plain (EncS.outIter_facts h hn k).1, by show _ % 2147483648 < _; omega⟩
theorem EncS.cutK_spec {e : EncS} {N : Nat} (h : e.inv N) : 22 ≤ e.cutK ∧ e.cutK ≤ 31 ∧ e.ends < 4294967296 := by
  have hl1 := le_len (n := e.rng) (k := 23) (by have := h.big; omega)
  have hl2 := len_le (n := e.rng) (k := 32) (by have := h.ok.hi; omega)
  obtain ⟨k, k1, k2, k3⟩ := len_spec (n := e.rng) (by have := h.big; omega)
  have hlow := h.ok.low
  have hc : 22 ≤ e.cutK ∧ e.cutK ≤ k := by
    unfold EncS.cutK
    split <;> omega
  have hp : 2 ^ e.cutK ≤ 2 ^ k := Nat.pow_le_pow_right (by omega) hc.2
  have hle : (e.low + (2 ^ e.cutK - 1)) / 2 ^ e.cutK * 2 ^ e.cutK ≤ e.low + (2 ^ e.cutK - 1) := Nat.div_mul_le_self _ _
  refine ⟨hc.1, by omega, ?_⟩
  show (e.low + (2 ^ e.cutK - 1)) / 2 ^ e.cutK * 2 ^ e.cutK < _
  omega
theorem flushW (w0 : World) (e : EncS) {N : Nat} (hN : N ≤ 1048400) (h : e.inv N) : CallsA Tryd.prog w0 43 [.c (.ptr 0 0)] e.H fun r H => r = i64 e.left ∧ H = e.flush.M := by
  have hlow := h.ok.low
  have hbig := h.big
  have hhi := h.ok.hi
  have hl1 := le_len (n := e.rng) (k := 23) (by omega)
  have hl2 := len_le (n := e.rng) (k := 32) (by omega)
  refine callsA_of_ev c43_ ?_
  conv => whnf
  refine (len32 w0 e.H (n := e.rng) (by omega)).mono ?_
  rintro _ _ ⟨rfl, rfl⟩
  conv => whnf
  obtain ⟨k, k1, k2, k3⟩ := len_spec (n := e.rng) (by omega)
  have hK : e.cutK = if e.low + e.rng ≤ (e.low + (2 ^ k - 1)) / 2 ^ k * 2 ^ k + (2 ^ k - 1) then k - 1 else k := by
    unfold EncS.cutK
    rw [k1]
    rfl
  have hkk : 23 ≤ k ∧ k ≤ 31 := by omega
  rw [k1]
  have hpk : 2 ^ k = 2 * 2 ^ (k - 1) := by
    rw [← Nat.pow_succ']
    congr 1
    omega
  have hp0 : 1 ≤ 2 ^ (k - 1) := Nat.one_le_two_pow
  have hmk : 2147483647 / 2 ^ (31 - k) = 2 ^ k - 1 := maskK ⟨k, by omega⟩ hkk.1
  have e1 : IntKind.i64.wrap (((32 : Nat) : Int) - ((k + 1 : Nat) : Int)) = ((31 - k : Nat) : Int) := by rw [nsub (by omega), nwrapi (by omega)]; omega
  rw [e1]
  clear e1
  refine ⟨by omega, ?_⟩
  conv => whnf
  have e2 : (((2147483647 : Nat) : Int)).fdiv (2 ^ min (((31 - k : Nat) : Int)).toNat IntKind.u32.bits) = ((2 ^ k - 1 : Nat) : Int) := by rw [nshrv32 _ _ (by omega), hmk]
  rw [e2]
  clear e2
  have hle : (e.low + (2 ^ k - 1)) / 2 ^ k * 2 ^ k ≤ e.low + (2 ^ k - 1) := Nat.div_mul_le_self _ _
  have hor : ((e.low + (2 ^ k - 1)) / 2 ^ k * 2 ^ k) ||| (2 ^ k - 1) = (e.low + (2 ^ k - 1)) / 2 ^ k * 2 ^ k + (2 ^ k - 1) := nor_add (by omega)
  have e3 : IntKind.u32.wrap (((e.low : Nat) : Int) + ((2 ^ k - 1 : Nat) : Int)) = ((e.low + (2 ^ k - 1) : Nat) : Int) := by rw [nadd, nwrap32 (by omega)]
  have hE : e.ends = (e.low + (2 ^ e.cutK - 1)) / 2 ^ e.cutK * 2 ^ e.cutK := rfl
  refine Or.inr ⟨Unit, fun _ => ⟨[(0, .o (.c (.ptr 0 0))), (3, .o (.c (.val (.int .i64 (31 - e.cutK : Nat))))), (5, .o (.c (.val (.int .u32 (e.ends : Nat)))))], e.H⟩, ?_, fun _ => ?_⟩
  · conv => whnf
    rw [e3, nandnot (by omega) (by omega), nor32 (by omega) (by omega), hor, nadd e.low e.rng, nwrap32 (n := e.low + e.rng) (by omega)]
    refine ⟨fun c1 => ?_, fun c1 => ?_⟩
    · have c1 := ge_t c1
      rw [if_pos c1] at hK
      conv => whnf
      rw [hE, hK]
      refine ⟨(), EncS.embH (e := e) rfl ⟨rfl, eq_i64 ?_, eq_u32 ?_, trivial⟩⟩
      · rw [nadd, nwrapi (by omega)]
        congr 1
        omega
      · have e4 : ((2 ^ k - 1 : Nat) : Int).fdiv (2 ^ min 1 IntKind.u32.bits) = ((2 ^ (k - 1) - 1 : Nat) : Int) := by
          rw [nshr32 _ _ (by omega)]
          congr 1
          omega
        rw [e4, nadd, nwrap32 (n := e.low + (2 ^ (k - 1) - 1)) (by omega), nandnot (by omega) (by omega)]
    · have c1 := ge_f c1
      rw [if_neg (by omega)] at hK
      conv => whnf
      rw [hE, hK]
      exact ⟨(), EncS.embH (e := e) rfl ⟨rfl, rfl, rfl, trivial⟩⟩
  · obtain ⟨q1, q2, q3⟩ := EncS.cutK_spec h
    have hO : e.outs = (31 - e.cutK + 7) / 8 := rfl
    have hF : e.flush = (e.outIter e.ends e.outs).1 := rfl
    have hL : e.left = ((31 - e.cutK : Nat) : Int) - ((8 * e.outs : Nat) : Int) := rfl
    have hpl := EncS.outIter_facts h.ok.plain q3
    have hit : ∀ j, e.outIter e.ends (j + 1) = ((e.outIter e.ends j).1.carry ((e.outIter e.ends j).2 / 8388608), (e.outIter e.ends j).2 * 256 % 2147483648) := fun j => rfl
    have h00 : e.outIter e.ends 0 = (e, e.ends) := rfl
    rw [hF, hL]
    clear hF hL
    generalize e.outs = O at *
    generalize e.cutK = K at *
    conv => whnf
    refine Or.inl ?_
    conv => whnf
    refine ⟨_root_.Fin (O + 1), fun ⟨j, _⟩ => ⟨[(0, .o (.c (.ptr 0 0))), (3, .o (.c (.val (.int .i64 (((31 - K : Nat) : Int) - ((8 * j : Nat) : Int)))))), (5, .o (.c (.val (.int .u32 ((e.outIter e.ends j).2 : Nat)))))], (e.outIter e.ends j).1.M⟩, fun j => O - j.1, ⟨⟨0, by omega⟩, EncS.embM 1 2 (by rw [h00]; rfl) (by rw [h00]; rfl) (by rw [h00]; rfl) (Nat.le_of_ble_eq_true rfl) rfl ⟨rfl, eq_i64 (by simp), rfl, trivial⟩⟩, fun ⟨j, hj⟩ => ?_⟩
    obtain ⟨p1, p2⟩ := hpl j
    have hitj := hit j
    clear hpl hit h00
    conv => whnf
    refine ⟨fun c1 => ?_, fun c1 => ?_⟩
    · have c1 : ((31 - K : Nat) : Int) - ((8 * j : Nat) : Int) > 0 := of_decide_eq_true c1
      generalize e.outIter e.ends j = q at *
      obtain ⟨f, n⟩ := q
      simp only at p1 p2 hitj
      conv => whnf
      have hv : IntKind.i64.wrap (((n : Nat) : Int).fdiv (2 ^ min 23 IntKind.u32.bits)) = ((n / 8388608 : Nat) : Int) := by
        rw [nshr32 _ _ (by omega), nwrapi (by omega)]
      rw [hv]
      refine CallsA.lift (H0 := f.H) [0, 3, 4] rfl ⟨rfl, rfl, rfl, rfl, rfl, rfl, trivial⟩ rfl (carryW w0 f (N := N + j) (by omega) p1 (v := n / 8388608) (by omega)) ?_
      rintro _ _ ⟨rfl, rfl⟩
      conv => whnf
      refine ⟨⟨j + 1, by omega⟩, EncS.embM 5 6 (by rw [hitj]; rfl) (by rw [hitj]; rfl) (by rw [hitj]; rfl) (Nat.le_of_ble_eq_true rfl) rfl ⟨rfl, eq_i64 ?_, eq_u32 ?_, trivial⟩, ?_⟩
      · rw [IntKind.wrap_i64]
        omega
      · rw [hitj]
        show IntKind.u32.wrap _ = ((n * 256 % 2147483648 : Nat) : Int)
        rw [nshl32 _ _ (by omega)]
        have hq : IntKind.u32.wrap ((n * 2 ^ 8 : Nat) : Int) = ((n * 256 % 4294967296 : Nat) : Int) := by
          rw [IntKind.wrap_u32]
          omega
        rw [hq, nand32 (by omega) (by omega), show n * 256 % 4294967296 &&& 2147483647 = n * 256 % 4294967296 % 2147483648 from nand_mask _ 31]
        omega
      · show O - (j + 1) < O - j
        omega
    · have c1 : ¬ ((31 - K : Nat) : Int) - ((8 * j : Nat) : Int) > 0 := of_decide_eq_false c1
      have hjO : j = O := by omega
      subst hjO
      conv => whnf
      exact Or.inl ⟨rfl, rfl⟩
end Go.Proofs.YtkomikpfnogjcaaDoor

/- Whole numbers of a kind, as natural numbers. -/
import Derived.Test.YtkomikpfnogjcaaVcR
import Derived.Laws.BitsLemmas
import Derived.Laws.Bits64
namespace Go.Proofs.Ytkomikpfnogjcaa
open Go Go.Vc

theorem nwrap32 {n : Nat} (h : n < 4294967296) : IntKind.u32.wrap (n : Int) = n := by rw [IntKind.wrap_u32]; omega
theorem nwrap64 {n : Nat} (h : n < 18446744073709551616) : IntKind.u64.wrap (n : Int) = n := by rw [IntKind.wrap_u64]; omega
theorem nwrap8 {n : Nat} (h : n < 256) : IntKind.u8.wrap (n : Int) = n := by rw [IntKind.wrap_u8]; omega
theorem nwrapi {n : Nat} (h : n < 9223372036854775808) : IntKind.i64.wrap (n : Int) = n := by rw [IntKind.wrap_i64]; omega
theorem ntdiv (a b : Nat) : (a : Int).tdiv (b : Int) = ((a / b : Nat) : Int) := (Int.ofNat_tdiv a b).symm
theorem ntmod (a b : Nat) : (a : Int).tmod (b : Int) = ((a % b : Nat) : Int) := (Int.ofNat_tmod a b).symm
theorem nfdiv (a n : Nat) : (a : Int).fdiv ((2 : Int) ^ n) = ((a / 2 ^ n : Nat) : Int) := by
  rw [Int.fdiv_eq_ediv_of_nonneg _ (by exact_mod_cast Nat.zero_le _)]
  norm_cast
theorem nshl (a n : Nat) : (a : Int) * (2 : Int) ^ n = ((a * 2 ^ n : Nat) : Int) := by norm_cast
theorem ofInt_nat (w n : Nat) : (BitVec.ofInt w (n : Int)) = BitVec.ofNat w n := by
  simp
theorem nand32 {a b : Nat} (ha : a < 4294967296) (hb : b < 4294967296) : IntKind.u32.wrap (((BitVec.ofInt IntKind.u32.bits (a : Int) &&& BitVec.ofInt IntKind.u32.bits (b : Int)).toNat : Nat) : Int) = ((a &&& b : Nat) : Int) := by
  rw [ofInt_nat, ofInt_nat, BitVec.toNat_and, BitVec.toNat_ofNat, BitVec.toNat_ofNat]
  rw [Nat.mod_eq_of_lt (by simpa [IntKind.bits] using ha), Nat.mod_eq_of_lt (by simpa [IntKind.bits] using hb)]
  exact nwrap32 (Nat.lt_of_le_of_lt Nat.and_le_left ha)
theorem nand64 {a b : Nat} (ha : a < 18446744073709551616) (hb : b < 18446744073709551616) : IntKind.u64.wrap (((BitVec.ofInt IntKind.u64.bits (a : Int) &&& BitVec.ofInt IntKind.u64.bits (b : Int)).toNat : Nat) : Int) = ((a &&& b : Nat) : Int) := by
  rw [ofInt_nat, ofInt_nat, BitVec.toNat_and, BitVec.toNat_ofNat, BitVec.toNat_ofNat]
  rw [Nat.mod_eq_of_lt (by simpa [IntKind.bits] using ha), Nat.mod_eq_of_lt (by simpa [IntKind.bits] using hb)]
  exact nwrap64 (Nat.lt_of_le_of_lt Nat.and_le_left ha)
theorem nandi {a b : Nat} (ha : a < 9223372036854775808) (hb : b < 9223372036854775808) : IntKind.i64.wrap (((BitVec.ofInt IntKind.i64.bits (a : Int) &&& BitVec.ofInt IntKind.i64.bits (b : Int)).toNat : Nat) : Int) = ((a &&& b : Nat) : Int) := by
  rw [ofInt_nat, ofInt_nat, BitVec.toNat_and, BitVec.toNat_ofNat, BitVec.toNat_ofNat]
  rw [Nat.mod_eq_of_lt (by simp [IntKind.bits]; omega), Nat.mod_eq_of_lt (by simp [IntKind.bits]; omega)]
  exact nwrapi (Nat.lt_of_le_of_lt Nat.and_le_left ha)
theorem nand8 {a b : Nat} (ha : a < 256) (hb : b < 256) : IntKind.u8.wrap (((BitVec.ofInt IntKind.u8.bits (a : Int) &&& BitVec.ofInt IntKind.u8.bits (b : Int)).toNat : Nat) : Int) = ((a &&& b : Nat) : Int) := by
  rw [ofInt_nat, ofInt_nat, BitVec.toNat_and, BitVec.toNat_ofNat, BitVec.toNat_ofNat]
  rw [Nat.mod_eq_of_lt (by simpa [IntKind.bits] using ha), Nat.mod_eq_of_lt (by simpa [IntKind.bits] using hb)]
  exact nwrap8 (Nat.lt_of_le_of_lt Nat.and_le_left ha)
theorem nor32 {a b : Nat} (ha : a < 4294967296) (hb : b < 4294967296) : IntKind.u32.wrap (((BitVec.ofInt IntKind.u32.bits (a : Int) ||| BitVec.ofInt IntKind.u32.bits (b : Int)).toNat : Nat) : Int) = ((a ||| b : Nat) : Int) := by
  rw [ofInt_nat, ofInt_nat, BitVec.toNat_or, BitVec.toNat_ofNat, BitVec.toNat_ofNat]
  rw [Nat.mod_eq_of_lt (by simpa [IntKind.bits] using ha), Nat.mod_eq_of_lt (by simpa [IntKind.bits] using hb)]
  exact nwrap32 (Nat.or_lt_two_pow (n := 32) ha hb)
theorem nor64 {a b : Nat} (ha : a < 18446744073709551616) (hb : b < 18446744073709551616) : IntKind.u64.wrap (((BitVec.ofInt IntKind.u64.bits (a : Int) ||| BitVec.ofInt IntKind.u64.bits (b : Int)).toNat : Nat) : Int) = ((a ||| b : Nat) : Int) := by
  rw [ofInt_nat, ofInt_nat, BitVec.toNat_or, BitVec.toNat_ofNat, BitVec.toNat_ofNat]
  rw [Nat.mod_eq_of_lt (by simpa [IntKind.bits] using ha), Nat.mod_eq_of_lt (by simpa [IntKind.bits] using hb)]
  exact nwrap64 (Nat.or_lt_two_pow (n := 64) ha hb)
/-- Joined without a common bit. -/
theorem nor_add {a b i : Nat} (hb : b < 2 ^ i) : a * 2 ^ i ||| b = a * 2 ^ i + b := by
  rw [Nat.mul_comm, Nat.two_pow_add_eq_or_of_lt hb]
theorem nand_mask (a i : Nat) : a &&& (2 ^ i - 1) = a % 2 ^ i := Nat.and_two_pow_sub_one_eq_mod a i
theorem nat_of {x : Int} (h : 0 ≤ x) : ∃ n : Nat, x = n := ⟨x.toNat, by omega⟩
theorem nshr (k : IntKind) (a n : Nat) (h : n ≤ k.bits) : (a : Int).fdiv ((2 : Int) ^ min n k.bits) = ((a / 2 ^ n : Nat) : Int) := by rw [Nat.min_eq_left h, nfdiv]
theorem nshrv (k : IntKind) (a n : Nat) (h : n ≤ k.bits) : (a : Int).fdiv ((2 : Int) ^ min ((n : Nat) : Int).toNat k.bits) = ((a / 2 ^ n : Nat) : Int) := by rw [Int.toNat_natCast, Nat.min_eq_left h, nfdiv]
theorem nshlk (k : IntKind) (a n : Nat) (h : n ≤ k.bits) : (a : Int) * ((2 : Int) ^ min n k.bits) = ((a * 2 ^ n : Nat) : Int) := by rw [Nat.min_eq_left h, nshl]
theorem nshlv (k : IntKind) (a n : Nat) (h : n ≤ k.bits) : (a : Int) * ((2 : Int) ^ min ((n : Nat) : Int).toNat k.bits) = ((a * 2 ^ n : Nat) : Int) := by rw [Int.toNat_natCast, Nat.min_eq_left h, nshl]
theorem nsub {a b : Nat} (h : b ≤ a) : (a : Int) - (b : Int) = ((a - b : Nat) : Int) := by omega
theorem nadd (a b : Nat) : (a : Int) + (b : Int) = ((a + b : Nat) : Int) := by omega
theorem nmul (a b : Nat) : (a : Int) * (b : Int) = ((a * b : Nat) : Int) := by norm_cast
theorem nshr8 (a n : Nat) (h : n ≤ 8) : (a : Int).fdiv ((2 : Int) ^ min n IntKind.u8.bits) = ((a / 2 ^ n : Nat) : Int) := nshr .u8 a n h
theorem nshrv8 (a n : Nat) (h : n ≤ 8) : (a : Int).fdiv ((2 : Int) ^ min ((n : Nat) : Int).toNat IntKind.u8.bits) = ((a / 2 ^ n : Nat) : Int) := nshrv .u8 a n h
theorem nshl8 (a n : Nat) (h : n ≤ 8) : (a : Int) * ((2 : Int) ^ min n IntKind.u8.bits) = ((a * 2 ^ n : Nat) : Int) := nshlk .u8 a n h
theorem nshlv8 (a n : Nat) (h : n ≤ 8) : (a : Int) * ((2 : Int) ^ min ((n : Nat) : Int).toNat IntKind.u8.bits) = ((a * 2 ^ n : Nat) : Int) := nshlv .u8 a n h
theorem nshr32 (a n : Nat) (h : n ≤ 32) : (a : Int).fdiv ((2 : Int) ^ min n IntKind.u32.bits) = ((a / 2 ^ n : Nat) : Int) := nshr .u32 a n h
theorem nshrv32 (a n : Nat) (h : n ≤ 32) : (a : Int).fdiv ((2 : Int) ^ min ((n : Nat) : Int).toNat IntKind.u32.bits) = ((a / 2 ^ n : Nat) : Int) := nshrv .u32 a n h
theorem nshl32 (a n : Nat) (h : n ≤ 32) : (a : Int) * ((2 : Int) ^ min n IntKind.u32.bits) = ((a * 2 ^ n : Nat) : Int) := nshlk .u32 a n h
theorem nshlv32 (a n : Nat) (h : n ≤ 32) : (a : Int) * ((2 : Int) ^ min ((n : Nat) : Int).toNat IntKind.u32.bits) = ((a * 2 ^ n : Nat) : Int) := nshlv .u32 a n h
theorem nshr64 (a n : Nat) (h : n ≤ 64) : (a : Int).fdiv ((2 : Int) ^ min n IntKind.u64.bits) = ((a / 2 ^ n : Nat) : Int) := nshr .u64 a n h
theorem nshrv64 (a n : Nat) (h : n ≤ 64) : (a : Int).fdiv ((2 : Int) ^ min ((n : Nat) : Int).toNat IntKind.u64.bits) = ((a / 2 ^ n : Nat) : Int) := nshrv .u64 a n h
theorem nshl64 (a n : Nat) (h : n ≤ 64) : (a : Int) * ((2 : Int) ^ min n IntKind.u64.bits) = ((a * 2 ^ n : Nat) : Int) := nshlk .u64 a n h
theorem nshlv64 (a n : Nat) (h : n ≤ 64) : (a : Int) * ((2 : Int) ^ min ((n : Nat) : Int).toNat IntKind.u64.bits) = ((a * 2 ^ n : Nat) : Int) := nshlv .u64 a n h
theorem nshri (a n : Nat) (h : n ≤ 64) : (a : Int).fdiv ((2 : Int) ^ min n IntKind.i64.bits) = ((a / 2 ^ n : Nat) : Int) := nshr .i64 a n h
theorem nshrvi (a n : Nat) (h : n ≤ 64) : (a : Int).fdiv ((2 : Int) ^ min ((n : Nat) : Int).toNat IntKind.i64.bits) = ((a / 2 ^ n : Nat) : Int) := nshrv .i64 a n h
theorem nshli (a n : Nat) (h : n ≤ 64) : (a : Int) * ((2 : Int) ^ min n IntKind.i64.bits) = ((a * 2 ^ n : Nat) : Int) := nshlk .i64 a n h
theorem nshlvi (a n : Nat) (h : n ≤ 64) : (a : Int) * ((2 : Int) ^ min ((n : Nat) : Int).toNat IntKind.i64.bits) = ((a * 2 ^ n : Nat) : Int) := nshlv .i64 a n h
def u32 (n : Nat) : AV := .o (.c (.val (.int .u32 n)))
def u64 (n : Nat) : AV := .o (.c (.val (.int .u64 n)))
def i64 (n : Int) : AV := .o (.c (.val (.int .i64 n)))
theorem u32_of {x : Int} {n : Nat} (h : x = n) : resV [(A1.c (.val (.int .u32 x))).norm] = u32 n := by subst h; rfl
theorem u64_of {x : Int} {n : Nat} (h : x = n) : resV [(A1.c (.val (.int .u64 x))).norm] = u64 n := by subst h; rfl
theorem i64_of {x y : Int} (h : x = y) : resV [(A1.c (.val (.int .i64 x))).norm] = i64 y := by subst h; rfl
theorem eq_u8 {x y : Int} (h : x = y) : some (AV.o (.c (.val (.int .u8 x)))) = some (AV.o (.c (.val (.int .u8 y)))) := by rw [h]
theorem eq_u32 {x y : Int} (h : x = y) : some (AV.o (.c (.val (.int .u32 x)))) = some (AV.o (.c (.val (.int .u32 y)))) := by rw [h]
theorem eq_u64 {x y : Int} (h : x = y) : some (AV.o (.c (.val (.int .u64 x)))) = some (AV.o (.c (.val (.int .u64 y)))) := by rw [h]
theorem eq_i64 {x y : Int} (h : x = y) : some (AV.o (.c (.val (.int .i64 x)))) = some (AV.o (.c (.val (.int .i64 y)))) := by rw [h]
theorem bne_f {a b : Nat} (h : ((a : Int) != (b : Int)) = false) : a = b := by
  have : (a : Int) = b := by
    by_cases hab : (a : Int) = b
    · exact hab
    · rw [bne_iff_ne.2 hab] at h
      cases h
  omega
theorem bne_t {a b : Nat} (h : ((a : Int) != (b : Int)) = true) : a ≠ b := by
  have := bne_iff_ne.1 h
  omega
theorem beq_t {a b : Nat} (h : ((a : Int) == (b : Int)) = true) : a = b := by
  have := eq_of_beq h
  omega
theorem beq_f {a b : Nat} (h : ((a : Int) == (b : Int)) = false) : a ≠ b := by
  intro hab
  subst hab
  simp at h
theorem lt_t {a b : Nat} (h : decide ((a : Int) < (b : Int)) = true) : a < b := by
  have := of_decide_eq_true h
  omega
theorem lt_f {a b : Nat} (h : decide ((a : Int) < (b : Int)) = false) : b ≤ a := by
  have := of_decide_eq_false h
  omega
theorem le_t {a b : Nat} (h : decide ((a : Int) ≤ (b : Int)) = true) : a ≤ b := by
  have := of_decide_eq_true h
  omega
theorem le_f {a b : Nat} (h : decide ((a : Int) ≤ (b : Int)) = false) : b < a := by
  have := of_decide_eq_false h
  omega
theorem ge_t {a b : Nat} (h : decide ((a : Int) ≥ (b : Int)) = true) : b ≤ a := by
  have := of_decide_eq_true h
  omega
theorem ge_f {a b : Nat} (h : decide ((a : Int) ≥ (b : Int)) = false) : a < b := by
  have := of_decide_eq_false h
  omega
theorem gt_t {a b : Nat} (h : decide ((a : Int) > (b : Int)) = true) : b < a := by
  have := of_decide_eq_true h
  omega
theorem gt_f {a b : Nat} (h : decide ((a : Int) > (b : Int)) = false) : a ≤ b := by
  have := of_decide_eq_false h
  omega
theorem CallsA_frame {P : Program} {w0 : World} {f : FuncId} {args : List A1} {v : AV} (hargs : args.map (A1.ren []) = args) (hv : v.ren [] = v) (h : CallsA P w0 f args [] fun r H => r = v ∧ H = []) (H : List Blk) :
    CallsA P w0 f args H fun r H' => r = v ∧ H' = H := by
  refine CallsA.lift (H0 := []) [] rfl trivial hargs h ?_
  rintro _ _ ⟨rfl, rfl⟩
  exact ⟨hv, by simp [putAll]⟩
theorem embNil {e0 e : Env} (h : embE [] e e0) : EmbS 0 ⟨e0, []⟩ ⟨e, []⟩ := ⟨[], ⟨rfl, trivial, rfl⟩, h⟩
end Go.Proofs.Ytkomikpfnogjcaa

/- The encoder's small pieces: no byte waits to be carried, or one. -/
import Derived.Test.YtkomikpfnogjcaaRcT
namespace Go.Proofs.Ytkomikpfnogjcaa
open Go Go.Vc
set_option maxRecDepth 100000

theorem bitMaskW (w0 : World) (H : List Blk) {n : Nat} (h : n < 32) : CallsA Try.prog w0 91 [.c (.val (.int .u64 n))] H fun r H' => r = u32 (2 ^ n - 1) ∧ H' = H := by
  have hp : 2 ^ n ≤ 2 ^ 31 := Nat.pow_le_pow_right (by omega) (by omega)
  have hp0 : 1 ≤ 2 ^ n := Nat.one_le_two_pow
  refine callsA_of_ev c91_ ?_
  conv => whnf
  refine Or.inl ?_
  conv => whnf
  refine ⟨fun h1 => absurd (ge_t h1) (by omega), fun _ => ?_⟩
  conv => whnf
  refine ⟨by omega, ?_⟩
  conv => whnf
  refine Or.inl ⟨u32_of ?_, rfl⟩
  rw [Int.toNat_natCast, nshl32 _ _ (by omega), Nat.one_mul, nwrap32 (by omega), nsub hp0, nwrap32 (by omega)]
theorem boolToIntW (w0 : World) (H : List Blk) (b : Bool) : CallsA Try.prog w0 95 [.c (.val (.bool b))] H fun r H' => r = i64 (bif b then 1 else 0) ∧ H' = H := by
  refine callsA_of_ev c95_ ?_
  conv => whnf
  refine Or.inl ?_
  conv => whnf
  refine ⟨fun h => ?_, fun h => ?_⟩
  · subst h
    conv => whnf
    exact Or.inl ⟨rfl, rfl⟩
  · subst h
    conv => whnf
    exact Or.inl ⟨rfl, rfl⟩
theorem shouldW (w0 : World) (e : EncS) (n : Nat) (h : 0 < e.nend) (hb : e.buf.length ≠ 0) (hn : e.nend ≤ n) : CallsA Try.prog w0 96 [.c (.ptr 0 0), .c (.val (.int .u64 n))] e.H fun r H' => r = .o (.c (.val (.bool false))) ∧ H' = e.H := by
  refine callsA_of_ev c96_ ?_
  conv => whnf
  refine ⟨fun _ => ?_, fun h1 => absurd (gt_f h1) (by omega)⟩
  conv => whnf
  refine ⟨fun h1 => absurd (beq_t h1) hb, fun _ => ?_⟩
  conv => whnf
  refine Or.inl ⟨?_, rfl⟩
  have : decide ((e.nend : Int) > (n : Int)) = false := decide_eq_false (by omega)
  rw [this]
  rfl
theorem carryN (w0 : World) (e : EncS) (hr : e.rem = -1) (hx : e.ext = 0) {v : Nat} (hv : v < 255) : CallsA Try.prog w0 94 [.c (.ptr 0 0), .c (.val (.int .i64 v))] e.H fun r H => r = .t [] ∧ H = ({ e with rem := v } : EncS).H := by
  refine callsA_of_ev c94_ ?_
  conv => whnf
  refine Or.inl ?_
  conv => whnf
  refine ⟨fun h1 => ?_, fun h1 => absurd (bne_f h1) (by omega)⟩
  conv => whnf
  refine Or.inl ?_
  conv => whnf
  refine ⟨fun h2 => absurd (of_decide_eq_true h2 : (0 : Int) ≤ e.rem) (by omega), fun _ => ?_⟩
  conv => whnf
  refine Or.inl ?_
  conv => whnf
  refine ⟨fun h1 => absurd (gt_t h1) (by omega), fun _ => ?_⟩
  conv => whnf
  refine Or.inl ⟨rfl, ?_⟩
  rw [nandi (by omega) (by omega), show (255 : Nat) = 2 ^ 8 - 1 by rfl, nand_mask, Nat.mod_eq_of_lt (by omega)]
  rfl
theorem carryP (w0 : World) (e : EncS) (hr : 0 ≤ e.rem) (hr2 : e.rem < 256) (hx : e.ext = 0) (hb : e.buf.length ≤ 1048576) {v : Nat} (hv : v < 255) : CallsA Try.prog w0 94 [.c (.ptr 0 0), .c (.val (.int .i64 v))] e.H fun r H => r = .t [] ∧ H = [({ e with rem := v, buf := e.buf ++ [e.rem] } : EncS).blk 3 2, .dead, byteBlk e.tail, byteBlk (e.buf ++ [e.rem])] := by
  refine callsA_of_ev c94_ ?_
  conv => whnf
  refine Or.inl ?_
  conv => whnf
  refine ⟨fun h1 => ?_, fun h1 => absurd (bne_f h1) (by omega)⟩
  conv => whnf
  refine Or.inl ?_
  conv => whnf
  refine ⟨fun _ => ?_, fun h2 => absurd hr (of_decide_eq_false h2)⟩
  conv => whnf
  refine ⟨⟨⟨rfl, rfl⟩, trivial⟩, ?_⟩
  conv => whnf
  have hX : IntKind.u8.wrap (IntKind.i64.wrap (e.rem + ((v : Nat) : Int).fdiv (2 ^ min 8 IntKind.i64.bits))) = e.rem := by
    rw [nshri _ _ (by omega), show v / 2 ^ 8 = 0 by omega, IntKind.wrap_i64, IntKind.wrap_u8]
    omega
  refine ⟨rfl, [e.rem], ⟨rfl, rfl, congrArg (fun x => [CV.val (.int .u8 x)]) hX.symm⟩, by rw [List.length_append, List.length_singleton]; omega, by rw [List.length_append, List.length_singleton]; omega, ?_⟩
  conv => whnf
  refine ⟨trivial, ?_⟩
  conv => whnf
  refine ⟨trivial, ?_⟩
  conv => whnf
  refine Or.inl ?_
  conv => whnf
  refine ⟨fun h1 => absurd (gt_t h1) (by omega), fun _ => ?_⟩
  conv => whnf
  have hrem : IntKind.i64.wrap (((BitVec.ofInt IntKind.i64.bits (v : Int) &&& BitVec.ofInt IntKind.i64.bits ((255 : Nat) : Int)).toNat : Nat) : Int) = (v : Int) := by
    rw [nandi (by omega) (by omega), show (255 : Nat) = 2 ^ 8 - 1 by rfl, nand_mask, Nat.mod_eq_of_lt (by omega)]
  refine Or.inr ⟨[0, 1, 2, 4], .t [], [({ e with rem := v, buf := e.buf ++ [e.rem] } : EncS).blk 3 2, .dead, byteBlk e.tail, byteBlk (e.buf ++ [e.rem])], ⟨rfl, ⟨congrArg (fun x : Int => some (Blk.cells 101 [.vec 4 (e.buf ++ [e.rem]).length, .vec 2 e.tail.length, .val (.int .u64 e.win), .val (.int .u64 e.nend), .val (.int .u32 e.rng), .val (.int .u32 e.low), .val (.int .i64 x), .val (.int .i64 e.ext), .val (.int .u64 e.total)])) hrem, rfl, Nat.le_of_ble_eq_true rfl, rfl, rfl, rfl, rfl, trivial⟩, rfl⟩, rfl, rfl, rfl⟩
theorem normStop (w0 : World) (e : EncS) (h : 8388608 < e.rng) : CallsA Try.prog w0 90 [.c (.ptr 0 0)] e.H fun r H => r = .t [] ∧ H = e.H := by
  refine callsA_of_ev c90_ ?_
  conv => whnf
  refine ⟨Unit, fun _ => ⟨[(0, .o (.c (.ptr 0 0)))], e.H⟩, fun _ => 0, ⟨(), EncS.embH rfl ⟨rfl, trivial⟩⟩, fun _ => ?_⟩
  conv => whnf
  refine ⟨fun h1 => absurd (le_t h1) (by omega), fun _ => ?_⟩
  conv => whnf
  exact Or.inl ⟨rfl, rfl⟩
end Go.Proofs.Ytkomikpfnogjcaa

/- The encoder's state. -/
import Derived.Test.YtkomikpfnogjcaaRcR
import Derived.Test.YtkomikpfnogjcaaIrEnc
namespace Go.Proofs.Ytkomikpfnogjcaa
open Go Go.Vc
set_option maxRecDepth 100000

structure EncS where
  buf : List Int
  tail : List Int
  win : Nat
  nend : Nat
  rng : Nat
  low : Nat
  rem : Int
  ext : Nat
  total : Nat
def EncS.blk (e : EncS) (i j : Nat) : Blk := .cells 101 [.vec i e.buf.length, .vec j e.tail.length, .val (.int .u64 e.win), .val (.int .u64 e.nend), .val (.int .u32 e.rng), .val (.int .u32 e.low), .val (.int .i64 e.rem), .val (.int .i64 e.ext), .val (.int .u64 e.total)]
def byteBlk (xs : List Int) : Blk := .vec true 5 (encI .u8) [] 1 xs
def EncS.H (e : EncS) : List Blk := [e.blk 1 2, byteBlk e.buf, byteBlk e.tail]
def EncS.init : EncS := ⟨[], [], 0, 0, 2147483648, 0, -1, 0, 33⟩

theorem encInit (w0 : World) : CallsA Try.prog w0 62 [.c (.ptr 0 0)] [.cells 101 [.val (.slice none 0 0), .val (.slice none 0 0), .val (.int .u64 0), .val (.int .u64 0), .val (.int .u32 0), .val (.int .u32 0), .val (.int .i64 0), .val (.int .i64 0), .val (.int .u64 0)]] fun r H => r = .t [] ∧ H = EncS.init.H := by
  refine callsA_of_ev c62_ ?_
  conv => whnf
  refine ⟨rfl, rfl, Or.inr ⟨5, Int, encI .u8, by omega, fun _ => rfl, ?_⟩⟩
  conv => whnf
  refine ⟨rfl, rfl, Or.inr ⟨5, Int, encI .u8, by omega, fun _ => rfl, ?_⟩⟩
  conv => whnf
  exact Or.inl ⟨rfl, rfl⟩
end Go.Proofs.Ytkomikpfnogjcaa

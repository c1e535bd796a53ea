/- What is written at one symbol, and read again. -/
import Derived.Test.YtkomikpfnogjcaaRcAa
import Derived.Test.YtkomikpfnogjcaaRcZ
namespace Go.Proofs.Ytkomikpfnogjcaa
open Go Go.Vc
set_option maxRecDepth 100000
set_option maxHeartbeats 4000000

def oA : OpV := ⟨3, 1000, 777, 0, 0, .slice none 0 0, []⟩
def opsA : Blk := .vec true 80 encOp [] 6 [oA]
def seenA : SeenV := ⟨0, true, 8589934, E2.tell, E2.frac, 0⟩
def encASt : Nat → S
  | 0 => ⟨[(2, .o (.c (.ptr 1 0))), (3, .o (.c (.ptr 2 0))), (4, .o (.c (.ptr 3 0))), (5, .o (.c (.ptr 4 0))), (10, .o (.c (.vec 0 1))), (11, .o (.c (.val (.int .i64 ((1 : Nat) : Int))))), (12, .o (.c (.val (.int .i64 ((0 : Nat) : Int)))))], [opsA, .cells 9 [.val (.string ByteArray.empty)], .cells 28 [.val (.slice none 0 0)], .cells 3 [.val (.int .i64 ((0 : Nat) : Int))], EncS.init.blk 5 6, byteBlk [], byteBlk []]⟩
  | _ => ⟨[(2, .o (.c (.ptr 1 0))), (3, .o (.c (.ptr 2 0))), (4, .o (.c (.ptr 3 0))), (5, .o (.c (.ptr 4 0))), (10, .o (.c (.vec 0 1))), (11, .o (.c (.val (.int .i64 ((1 : Nat) : Int))))), (12, .o (.c (.val (.int .i64 ((1 : Nat) : Int)))))], [opsA, .cells 9 [.val (.string ByteArray.empty)], .cells 28 [.vec 7 1], .cells 3 [.val (.int .i64 ((0 : Nat) : Int))], E2.blk 5 6, byteBlk [], byteBlk [], .vec true 35 encSeen [] 6 [seenA]]⟩
theorem encodeA (w0 : World) : CallsA Try.prog w0 20 [.c (.vec 0 1)] [opsA] fun r H => ∃ s : SeenV, r = .t [.c (.val (.string (strOf [199, 1]))), .c (.vec 1 1), .c (.val (.int .i64 ((0 : Nat) : Int)))] ∧ H = [opsA, .vec true 35 encSeen [] 6 [s]] := by
  refine callsA_of_evD c20_ ?_
  conv => whnf
  refine CallsA.lift (H0 := [.cells 101 [.val (.slice none 0 0), .val (.slice none 0 0), .val (.int .u64 0), .val (.int .u64 0), .val (.int .u32 0), .val (.int .u32 0), .val (.int .i64 0), .val (.int .i64 0), .val (.int .u64 0)]]) [4] rfl ⟨rfl, rfl, trivial⟩ rfl (encInit w0) ?_
  rintro _ _ ⟨rfl, rfl⟩
  conv => whnf
  refine Or.inl ?_
  conv => whnf
  refine ⟨_root_.Fin 2, fun ⟨k, _⟩ => encASt k, fun k => 2 - k.1, ⟨⟨0, by decide⟩, ⟨[0, 1, 2, 3, 4, 5, 6], ⟨rfl, ⟨rfl, rfl, rfl, rfl, rfl, rfl, rfl, rfl, rfl, rfl, rfl, rfl, rfl, rfl, trivial⟩, rfl⟩, rfl, rfl, rfl, rfl, rfl, rfl, rfl, trivial⟩⟩, fun ⟨k, hk⟩ => ?_⟩
  rcases k with _ | _ | k
  · conv => whnf
    refine ⟨fun _ => ?_, fun h => absurd h (by decide)⟩
    conv => whnf
    refine Or.inl ?_
    conv => whnf
    refine ⟨by decide, ?_⟩
    conv => whnf
    refine ⟨oA, rfl, ?_⟩
    conv => whnf
    refine Or.inl ?_
    conv => whnf
    refine ⟨fun h => absurd h (by decide), fun _ => ?_⟩
    conv => whnf
    refine ⟨fun h => absurd h (by decide), fun _ => ?_⟩
    conv => whnf
    refine ⟨fun h => absurd h (by decide), fun _ => ?_⟩
    conv => whnf
    refine ⟨fun _ => ?_, fun h => absurd h (by decide)⟩
    conv => whnf
    refine CallsA.lift (H0 := EncS.init.H) [4, 5, 6] rfl ⟨rfl, rfl, rfl, rfl, rfl, rfl, trivial⟩ rfl (uniA w0) ?_
    rintro _ _ ⟨rfl, rfl⟩
    conv => whnf
    refine CallsA.lift (H0 := E2.H) [4, 5, 6] rfl ⟨rfl, rfl, rfl, rfl, rfl, rfl, trivial⟩ rfl (encFinal w0 E2) ?_
    rintro _ _ ⟨rfl, rfl⟩
    conv => whnf
    refine ⟨⟨⟨rfl, rfl⟩, trivial⟩, ?_⟩
    conv => whnf
    refine CallsA.lift (H0 := E2.H) [4, 5, 6] rfl ⟨rfl, rfl, rfl, rfl, rfl, rfl, trivial⟩ rfl (encTell w0 E2 (by decide) (by decide) (by decide)) ?_
    rintro _ _ ⟨rfl, rfl⟩
    conv => whnf
    refine ⟨⟨⟨rfl, rfl⟩, trivial⟩, ?_⟩
    conv => whnf
    refine CallsA.lift (H0 := E2.H) [4, 5, 6] rfl ⟨rfl, rfl, rfl, rfl, rfl, rfl, trivial⟩ rfl (encTellFrac w0 E2 (by decide) (by decide) (by decide)) ?_
    rintro _ _ ⟨rfl, rfl⟩
    conv => whnf
    refine ⟨⟨⟨rfl, rfl⟩, trivial⟩, ?_⟩
    conv => whnf
    refine ⟨⟨⟨rfl, rfl⟩, trivial⟩, ?_⟩
    conv => whnf
    refine ⟨by decide, SeenV, encSeen, [], [seenA], fun _ => rfl, ⟨rfl, rfl, rfl⟩, by decide, by decide, ?_⟩
    conv => whnf
    refine ⟨by first | exact trivial | exact ⟨⟨rfl, rfl⟩, trivial⟩, ?_⟩
    conv => whnf
    refine ⟨by first | exact trivial | exact ⟨⟨rfl, rfl⟩, trivial⟩, ?_⟩
    conv => whnf
    exact ⟨⟨1, by decide⟩, ⟨[0, 1, 2, 3, 4, 5, 6, 9], ⟨rfl, ⟨rfl, rfl, rfl, rfl, rfl, rfl, rfl, rfl, rfl, rfl, rfl, rfl, rfl, rfl, rfl, rfl, trivial⟩, rfl⟩, rfl, rfl, rfl, rfl, rfl, rfl, rfl, trivial⟩, (by show 2 - 1 < 2 - 0; decide)⟩
  · conv => whnf
    refine ⟨fun h => absurd h (by decide), fun _ => ?_⟩
    conv => whnf
    refine CallsA.lift (H0 := E2.H) [4, 5, 6] rfl ⟨rfl, rfl, rfl, rfl, rfl, rfl, trivial⟩ rfl (doneA w0) ?_
    rintro _ _ ⟨rfl, rfl⟩
    conv => whnf
    refine ⟨⟨⟨rfl, rfl⟩, trivial⟩, ?_⟩
    conv => whnf
    refine ⟨trivial, [199, 1], ⟨rfl, by decide, rfl, rfl⟩, ?_⟩
    conv => whnf
    refine ⟨⟨⟨rfl, rfl⟩, trivial⟩, ?_⟩
    conv => whnf
    refine ⟨by first | exact trivial | exact ⟨⟨rfl, rfl⟩, trivial⟩, ?_⟩
    conv => whnf
    refine ⟨by first | exact trivial | exact ⟨⟨rfl, rfl⟩, trivial⟩, ?_⟩
    conv => whnf
    refine ⟨by first | exact trivial | exact ⟨⟨rfl, rfl⟩, trivial⟩, ?_⟩
    conv => whnf
    refine Or.inr ⟨[0, 7], .t [.c (.val (.string (strOf [199, 1]))), .c (.vec 1 1), .c (.val (.int .i64 ((0 : Nat) : Int)))], [opsA, .vec true 35 encSeen [] 6 [seenA]], ⟨rfl, ⟨rfl, rfl, rfl, rfl, trivial⟩, rfl⟩, rfl, seenA, rfl, rfl⟩
  · omega
end Go.Proofs.Ytkomikpfnogjcaa

/- The encoder at one symbol. -/
import Derived.Test.YtkomikpfnogjcaaRcV
namespace Go.Proofs.Ytkomikpfnogjcaa
open Go Go.Vc
set_option maxRecDepth 100000
set_option maxHeartbeats 4000000

def E1 : EncS := ⟨[], [], 0, 0, 8589934, 1666447344, -1, 0, 33⟩
def E2 : EncS := ⟨[], [], 1, 2, 8589934, 1666447344, -1, 0, 35⟩
theorem cumA (w0 : World) : CallsA Try.prog w0 63 [.c (.ptr 0 0), .c (.val (.int .u32 ((194 : Nat) : Int))), .c (.val (.int .u32 ((195 : Nat) : Int))), .c (.val (.int .u32 ((250 : Nat) : Int)))] EncS.init.H fun r H => r = .t [] ∧ H = E1.H := by
  refine callsA_of_ev c63_ ?_
  conv => whnf
  refine Or.inl ?_
  conv => whnf
  refine ⟨fun h => absurd (beq_t h) (by decide), fun _ => ?_⟩
  conv => whnf
  refine ⟨fun h => absurd (ge_t h) (by decide), fun _ => ?_⟩
  conv => whnf
  refine ⟨fun h => absurd (gt_t h) (by decide), fun _ => ?_⟩
  conv => whnf
  refine ⟨by decide, ?_⟩
  conv => whnf
  refine Or.inl ?_
  conv => whnf
  refine ⟨fun _ => ?_, fun h => absurd (bne_f h) (by decide)⟩
  conv => whnf
  refine ⟨by first | exact trivial | exact ⟨⟨rfl, rfl⟩, trivial⟩, ?_⟩
  conv => whnf
  refine (normStop w0 E1 (by decide)).mono ?_
  rintro _ _ ⟨rfl, rfl⟩
  conv => whnf
  exact Or.inl ⟨rfl, rfl⟩
theorem rawA (w0 : World) : CallsA Try.prog w0 67 [.c (.ptr 0 0), .c (.val (.int .u64 ((2 : Nat) : Int))), .c (.val (.int .u32 ((1 : Nat) : Int)))] E1.H fun r H => r = .t [] ∧ H = E2.H := by
  refine callsA_of_ev c67_ ?_
  conv => whnf
  refine Or.inl ?_
  conv => whnf
  refine ⟨fun h => absurd (beq_t h) (by decide), fun _ => ?_⟩
  conv => whnf
  refine Or.inl ?_
  conv => whnf
  refine ⟨fun _ => ?_, fun h => absurd (lt_f h) (by decide)⟩
  conv => whnf
  refine (bitMaskW w0 E1.H (n := 2) (by decide)).mono ?_
  rintro _ _ ⟨rfl, rfl⟩
  conv => whnf
  refine ⟨by decide, ?_⟩
  conv => whnf
  refine ⟨by first | exact trivial | exact ⟨⟨rfl, rfl⟩, trivial⟩, ?_⟩
  conv => whnf
  refine ⟨Unit, fun _ => ⟨[(0, .o (.c (.ptr 0 0)))], E2.H⟩, fun _ => 0, ⟨(), EncS.embH rfl ⟨rfl, trivial⟩⟩, fun _ => ?_⟩
  conv => whnf
  refine ⟨fun h => absurd (ge_t h) (by decide), fun _ => ?_⟩
  conv => whnf
  exact Or.inl ⟨rfl, rfl⟩
theorem uniA (w0 : World) : CallsA Try.prog w0 66 [.c (.ptr 0 0), .c (.val (.int .u32 ((1000 : Nat) : Int))), .c (.val (.int .u32 ((777 : Nat) : Int)))] EncS.init.H fun r H => r = .t [] ∧ H = E2.H := by
  refine callsA_of_ev c66_ ?_
  conv => whnf
  refine Or.inl ?_
  conv => whnf
  refine ⟨fun h => absurd (le_t h) (by decide), fun _ => ?_⟩
  conv => whnf
  refine Or.inl ?_
  conv => whnf
  refine ⟨fun h => absurd (ge_t h) (by decide), fun _ => ?_⟩
  conv => whnf
  refine (len32 w0 EncS.init.H (n := 999) (by decide)).mono ?_
  rintro _ _ ⟨rfl, rfl⟩
  conv => whnf
  refine Or.inl ?_
  conv => whnf
  refine ⟨fun h => absurd (le_t h) (by decide), fun _ => ?_⟩
  conv => whnf
  refine ⟨by decide, ?_⟩
  conv => whnf
  refine ⟨by decide, ?_⟩
  conv => whnf
  refine (cumA w0).mono ?_
  rintro _ _ ⟨rfl, rfl⟩
  conv => whnf
  refine (bitMaskW w0 E1.H (n := 2) (by decide)).mono ?_
  rintro _ _ ⟨rfl, rfl⟩
  conv => whnf
  refine (rawA w0).mono ?_
  rintro _ _ ⟨rfl, rfl⟩
  conv => whnf
  exact Or.inl ⟨rfl, rfl⟩
def E3 : EncS := ⟨[], [], 1, 2, 8589934, 1666447344, 199, 0, 35⟩
def E4 : EncS := ⟨[199], [], 1, 2, 8589934, 1666447344, 0, 0, 35⟩
def flushSt : Nat → S
  | 0 => ⟨[(0, .o (.c (.ptr 0 0))), (3, .o (.c (.val (.int .i64 ((9 : Nat) : Int))))), (5, .o (.c (.val (.int .u32 ((1669332992 : Nat) : Int)))))], E2.H⟩
  | 1 => ⟨[(0, .o (.c (.ptr 0 0))), (3, .o (.c (.val (.int .i64 ((1 : Nat) : Int))))), (5, .o (.c (.val (.int .u32 ((0 : Nat) : Int)))))], E3.H⟩
  | _ => ⟨[(0, .o (.c (.ptr 0 0))), (3, .o (.c (.val (.int .i64 (-7))))), (5, .o (.c (.val (.int .u32 ((0 : Nat) : Int)))))], [E4.blk 3 2, .dead, byteBlk [], byteBlk [199]]⟩
theorem flushA (w0 : World) : CallsA Try.prog w0 93 [.c (.ptr 0 0)] E2.H fun r H => r = i64 (-7) ∧ H = [E4.blk 3 2, .dead, byteBlk [], byteBlk [199]] := by
  refine callsA_of_ev c93_ ?_
  conv => whnf
  refine (len32 w0 E2.H (n := 8589934) (by decide)).mono ?_
  rintro _ _ ⟨rfl, rfl⟩
  conv => whnf
  refine ⟨by decide, ?_⟩
  conv => whnf
  refine Or.inl ?_
  conv => whnf
  refine ⟨fun _ => ?_, fun h => absurd h (by decide)⟩
  conv => whnf
  refine Or.inl ?_
  conv => whnf
  refine ⟨_root_.Fin 3, fun ⟨k, _⟩ => flushSt k, fun k => 3 - k.1, ⟨⟨0, by decide⟩, EncS.embH (e := E2) rfl ⟨rfl, rfl, rfl, trivial⟩⟩, fun ⟨k, hk⟩ => ?_⟩
  rcases k with _ | _ | _ | k
  · conv => whnf
    refine ⟨fun _ => ?_, fun h => absurd h (by decide)⟩
    conv => whnf
    refine (carryN w0 E2 rfl rfl (v := 199) (by decide)).mono ?_
    rintro _ _ ⟨rfl, rfl⟩
    conv => whnf
    exact ⟨⟨1, by decide⟩, EncS.embH (e := E3) rfl ⟨rfl, rfl, rfl, trivial⟩, (by show 3 - 1 < 3 - 0; decide)⟩
  · conv => whnf
    refine ⟨fun _ => ?_, fun h => absurd h (by decide)⟩
    conv => whnf
    refine (carryP w0 E3 (by decide) (by decide) rfl (by decide) (v := 0) (by decide)).mono ?_
    rintro _ _ ⟨rfl, rfl⟩
    conv => whnf
    exact ⟨⟨2, by decide⟩, ⟨[0, 1, 2, 3], ⟨rfl, ⟨rfl, rfl, by decide, rfl, rfl, rfl, rfl, trivial⟩, rfl⟩, rfl, rfl, rfl, trivial⟩, (by show 3 - 2 < 3 - 1; decide)⟩
  · conv => whnf
    refine ⟨fun h => absurd h (by decide), fun _ => ?_⟩
    conv => whnf
    exact Or.inl ⟨rfl, rfl⟩
  · omega
def E5 : EncS := ⟨[199, 0], [], 1, 2, 8589934, 1666447344, 0, 0, 35⟩
theorem doneA (w0 : World) : CallsA Try.prog w0 72 [.c (.ptr 0 0)] E2.H fun r H => r = .o (.c (.vec 3 2)) ∧ H = [.dead, .dead, .dead, byteBlk [199, 1]] := by
  refine callsA_of_ev c72_ ?_
  conv => whnf
  refine (flushA w0).mono ?_
  rintro _ _ ⟨rfl, rfl⟩
  conv => whnf
  refine Or.inl ?_
  conv => whnf
  refine ⟨fun _ => ?_, fun h => absurd h (by decide)⟩
  conv => whnf
  refine CallsA.lift (H0 := E4.H) [0, 3, 2] rfl ⟨rfl, rfl, rfl, rfl, rfl, rfl, trivial⟩ rfl (carryP w0 E4 (by decide) (by decide) rfl (by decide) (v := 0) (by decide)) ?_
  rintro _ _ ⟨rfl, rfl⟩
  conv => whnf
  refine Or.inl ?_
  conv => whnf
  refine ⟨fun _ => ?_, fun h => absurd h (by decide)⟩
  conv => whnf
  refine CallsA.lift (H0 := E5.H) [0, 4, 2] rfl ⟨rfl, rfl, rfl, rfl, rfl, rfl, trivial⟩ rfl (shouldW w0 E5 7 (by decide) (by decide) (by decide)) ?_
  rintro _ _ ⟨rfl, rfl⟩
  conv => whnf
  refine ⟨⟨⟨rfl, rfl⟩, ⟨rfl, rfl⟩, trivial⟩, ?_⟩
  conv => whnf
  refine (boolToIntW w0 _ false).mono ?_
  rintro _ _ ⟨rfl, rfl⟩
  conv => whnf
  refine ⟨⟨⟨rfl, rfl⟩, ⟨rfl, rfl⟩, trivial⟩, ?_⟩
  conv => whnf
  refine ⟨by decide, ?_⟩
  conv => whnf
  refine ⟨Int, encI .u8, 0, fun _ => rfl, rfl, ?_⟩
  conv => whnf
  refine ⟨by first | exact trivial | exact ⟨⟨rfl, rfl⟩, trivial⟩ | exact ⟨⟨rfl, rfl⟩, ⟨rfl, rfl⟩, trivial⟩, ?_⟩
  conv => whnf
  refine ⟨rfl, [199, 0], ⟨rfl, by decide, rfl, rfl⟩, by decide, ?_⟩
  conv => whnf
  refine Or.inl ?_
  conv => whnf
  refine ⟨Unit, fun _ => ⟨[(0, .o (.c (.ptr 0 0))), (4, .o (.c (.val (.int .u64 ((7 : Nat) : Int))))), (5, .o (.c (.vec 5 2))), (56, .o (.c (.vec 2 0))), (57, .o (.c (.val (.int .i64 ((0 : Nat) : Int))))), (58, .o (.c (.val (.int .i64 ((0 : Nat) : Int)))))], [E5.blk 4 2, .dead, byteBlk [], .dead, byteBlk [199, 0], byteBlk [199, 0]]⟩, fun _ => 0, ⟨(), [0, 1, 2, 3, 4, 5], ⟨rfl, ⟨rfl, rfl, by decide, rfl, rfl, by decide, rfl, rfl, rfl, rfl, trivial⟩, rfl⟩, rfl, rfl, rfl, rfl, rfl, rfl, trivial⟩, fun _ => ?_⟩
  conv => whnf
  refine ⟨fun h => absurd h (by decide), fun _ => ?_⟩
  conv => whnf
  refine Or.inl ?_
  conv => whnf
  refine ⟨fun _ => ?_, fun h => absurd h (by decide)⟩
  conv => whnf
  refine (bitMaskW w0 _ (n := 2) (by decide)).mono ?_
  rintro _ _ ⟨rfl, rfl⟩
  conv => whnf
  refine ⟨⟨⟨rfl, rfl⟩, trivial⟩, ?_⟩
  conv => whnf
  refine CallsA.lift (H0 := E5.H) [0, 4, 2] rfl ⟨rfl, rfl, rfl, rfl, rfl, rfl, trivial⟩ rfl (shouldW w0 E5 7 (by decide) (by decide) (by decide)) ?_
  rintro _ _ ⟨rfl, rfl⟩
  conv => whnf
  refine ⟨(fun h => by cases h), fun _ => ?_⟩
  conv => whnf
  refine ⟨by decide, ?_⟩
  conv => whnf
  refine ⟨0, rfl, ?_⟩
  conv => whnf
  refine ⟨by decide, ?_⟩
  conv => whnf
  refine ⟨0, 1, rfl, rfl, ?_⟩
  conv => whnf
  exact Or.inr ⟨[0, 1, 2, 5], .o (.c (.vec 3 2)), [.dead, .dead, .dead, byteBlk [199, 1]], ⟨rfl, ⟨Nat.le_of_ble_eq_true rfl, Nat.le_of_ble_eq_true rfl, Nat.le_of_ble_eq_true rfl, rfl, rfl, trivial⟩, rfl⟩, rfl, rfl, rfl⟩
end Go.Proofs.Ytkomikpfnogjcaa

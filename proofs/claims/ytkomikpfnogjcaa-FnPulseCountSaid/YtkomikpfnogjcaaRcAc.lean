/- The laws' sanity check holds. -/
import Derived.Test.YtkomikpfnogjcaaRcAb
namespace Go.Proofs.Ytkomikpfnogjcaa
open Go Go.Vc
set_option maxRecDepth 100000
set_option maxHeartbeats 4000000

def locA : Blk := .cells 47 [.val (.int .i64 ((3 : Nat) : Int)), .val (.int .u32 ((1000 : Nat) : Int)), .val (.int .u32 ((777 : Nat) : Int)), .val (.int .u32 ((0 : Nat) : Int)), .val (.int .i64 ((0 : Nat) : Int)), .val (.slice none 0 0)]
def opsLSt : Nat → S
  | 0 => ⟨[(3, .o (.c (.val (.slice none 0 0)))), (6, .o (.c (.sli 0 6 0 1 1))), (7, .o (.c (.val (.int .i64 ((1 : Nat) : Int))))), (8, .o (.c (.val (.int .i64 ((0 : Nat) : Int)))))], [locA]⟩
  | _ => ⟨[(3, .o (.c (.vec 1 1))), (6, .o (.c (.sli 0 6 0 1 1))), (7, .o (.c (.val (.int .i64 ((1 : Nat) : Int))))), (8, .o (.c (.val (.int .i64 ((1 : Nat) : Int)))))], [locA, opsA]⟩
theorem opsL (w0 : World) : CallsA Try.prog w0 15 [.c (.sli 0 6 0 1 1)] [locA] fun r H => r = .o (.c (.vec 1 1)) ∧ H = [locA, opsA] := by
  refine callsA_of_ev c15_ ?_
  conv => whnf
  refine Or.inl ?_
  conv => whnf
  refine ⟨_root_.Fin 2, fun ⟨k, _⟩ => opsLSt k, fun k => 2 - k.1, ⟨⟨0, by decide⟩, ⟨[0], ⟨rfl, ⟨rfl, rfl, trivial⟩, rfl⟩, rfl, rfl, rfl, rfl, trivial⟩⟩, fun ⟨k, hk⟩ => ?_⟩
  rcases k with _ | _ | k
  · conv => whnf
    refine ⟨fun _ => ?_, fun h => absurd h (by decide)⟩
    conv => whnf
    refine ⟨by decide, ?_⟩
    conv => whnf
    refine ⟨by decide, OpV, encOp, [], [oA], fun _ => rfl, ⟨rfl, rfl, rfl⟩, by decide, by decide, ?_⟩
    conv => whnf
    exact ⟨⟨1, by decide⟩, ⟨[0, 3], ⟨rfl, ⟨rfl, rfl, rfl, rfl, trivial⟩, rfl⟩, rfl, rfl, rfl, rfl, trivial⟩, (by show 2 - 1 < 2 - 0; decide)⟩
  · conv => whnf
    refine ⟨fun h => absurd h (by decide), fun _ => ?_⟩
    conv => whnf
    exact Or.inl ⟨rfl, rfl⟩
  · omega

theorem goodA (w0 : World) : oA.good w0 := ⟨by decide, by decide, by decide, Or.inr (Or.inr (Or.inr (Or.inl ⟨rfl, by decide⟩)))⟩
theorem readA : ∃ s : SeenV, (Dec.init (bytesOf (strOf [199, 1]))).seen [oA] = [s] ∧ s.value = ((777 : Nat) : Int) ∧ s.fine = true := ⟨_, rfl, by kernel_rfl, by kernel_rfl⟩
theorem aliveW (w0 : World) : CallsA Try.prog w0 17 [] [] fun r H => r = .o (.c (.val (.bool true))) ∧ H = [] := by
  refine callsA_of_ev c17_ ?_
  conv => whnf
  refine CallsA.lift (H0 := [locA]) [0] rfl ⟨rfl, rfl, trivial⟩ rfl (opsL w0) ?_
  rintro _ _ ⟨rfl, rfl⟩
  conv => whnf
  refine CallsA.lift (H0 := [opsA]) [1] rfl ⟨rfl, rfl, trivial⟩ rfl (encodeA w0) ?_
  rintro _ _ ⟨sA, rfl, rfl⟩
  conv => whnf
  refine CallsA.lift (H0 := [opsA]) [1] rfl ⟨rfl, rfl, trivial⟩ rfl (decodeW w0 (b := strOf [199, 1]) (l := [oA]) (by decide) (by decide) (by decide) ?_) ?_
  · intro o ho
    rw [List.mem_singleton] at ho
    subst ho
    exact ⟨goodA w0, rfl⟩
  rintro _ _ ⟨rfl, rfl⟩
  obtain ⟨s, hs, h1, h2⟩ := readA
  rw [hs]
  obtain ⟨sv, sf, sr, st, sc, sl⟩ := s
  simp only at h1 h2
  subst h1 h2
  clear hs
  conv => whnf
  refine ⟨fun _ => ?_, fun h => absurd h (by decide)⟩
  conv => whnf
  refine ⟨fun _ => ?_, fun h => absurd h (by decide)⟩
  conv => whnf
  refine ⟨fun _ => ?_, fun h => absurd h (by decide)⟩
  conv => whnf
  refine ⟨by decide, ?_⟩
  conv => whnf
  refine ⟨_, rfl, ?_⟩
  conv => whnf
  refine ⟨fun _ => ?_, fun h => absurd rfl (ieq_f h)⟩
  conv => whnf
  refine ⟨by decide, ?_⟩
  conv => whnf
  refine ⟨_, rfl, ?_⟩
  conv => whnf
  exact Or.inr ⟨[], .o (.c (.val (.bool true))), [], ⟨rfl, trivial, rfl⟩, rfl, rfl, rfl⟩
end Go.Proofs.Ytkomikpfnogjcaa

/- The package takes a packet apart: what single bytes tell. -/
import Derived.Test.YtknfakehijoogaaDoorPkC
namespace Go.Proofs.YtknfakehijoogaaDoor
open Go Go.Vc
set_option maxRecDepth 100000
set_option maxHeartbeats 8000000
set_option linter.unusedSimpArgs false

def cfgFd (n : Nat) : Nat := [3, 4, 5, 6, 3, 4, 5, 6, 3, 4, 5, 6, 3, 4, 3, 4, 1, 2, 3, 4, 1, 2, 3, 4, 1, 2, 3, 4, 1, 2, 3, 4].getD n 0
def fdNs (n : Nat) : Nat := [0, 2500000, 5000000, 10000000, 20000000, 40000000, 60000000].getD n 0
theorem durationW (w0 : World) : ∀ n, n < 32 → CallsA Tryd.prog w0 21 [.c (.val (.int .i64 (n : Nat)))] [] fun r H => r = i64 (dura n : Nat) ∧ H = [] := by
  intro n h
  refine callsA_of_ev c21_ ?_
  iterate 32 (rcases n with _ | n; focus (
    (conv => whnf)
    repeat' (first
      | exact Or.inl ⟨rfl, rfl⟩
      | (refine Or.inl ?_; (conv => whnf))
      | (refine ⟨fun h => absurd h (by decide), fun _ => ?_⟩; (conv => whnf))
      | (refine ⟨fun _ => ?_, fun h => absurd h (by decide)⟩; (conv => whnf))
      | (refine ⟨by decide, _, rfl, ?_⟩; (conv => whnf))
      | (refine ⟨by decide, ?_⟩; (conv => whnf))
      | (refine ⟨trivial, ?_⟩; (conv => whnf)))))
  omega
theorem frameDurationW (w0 : World) : ∀ n, n < 32 → CallsA Tryd.prog w0 75 [.c (.val (.int .u8 (n : Nat)))] [] fun r H => r = .o (.c (.val (.int .u8 (cfgFd n : Nat)))) ∧ H = [] := by
  intro n h
  refine callsA_of_ev c75_ ?_
  iterate 32 (rcases n with _ | n; focus (
    (conv => whnf)
    repeat' (first
      | exact Or.inl ⟨rfl, rfl⟩
      | (refine Or.inl ?_; (conv => whnf))
      | (refine ⟨fun h => absurd h (by decide), fun _ => ?_⟩; (conv => whnf))
      | (refine ⟨fun _ => ?_, fun h => absurd h (by decide)⟩; (conv => whnf))
      | (refine ⟨by decide, _, rfl, ?_⟩; (conv => whnf))
      | (refine ⟨by decide, ?_⟩; (conv => whnf))
      | (refine ⟨trivial, ?_⟩; (conv => whnf)))))
  omega
theorem nanosecondsW (w0 : World) : ∀ n, n < 7 → CallsA Tryd.prog w0 76 [.c (.val (.int .u8 (n : Nat)))] [] fun r H => r = i64 (fdNs n : Nat) ∧ H = [] := by
  intro n h
  refine callsA_of_ev c76_ ?_
  iterate 7 (rcases n with _ | n; focus (
    (conv => whnf)
    repeat' (first
      | exact Or.inl ⟨rfl, rfl⟩
      | (refine Or.inl ?_; (conv => whnf))
      | (refine ⟨fun h => absurd h (by decide), fun _ => ?_⟩; (conv => whnf))
      | (refine ⟨fun _ => ?_, fun h => absurd h (by decide)⟩; (conv => whnf))
      | (refine ⟨by decide, _, rfl, ?_⟩; (conv => whnf))
      | (refine ⟨by decide, ?_⟩; (conv => whnf))
      | (refine ⟨trivial, ?_⟩; (conv => whnf)))))
  omega
theorem cfg_facts : ∀ n, n < 32 → cfgFd n < 7 ∧ 6 * fdNs (cfgFd n) = dura n * 125000 ∧ dura n ≤ 2880 := by decide
theorem and_bit : ∀ x, x < 256 → ((IntKind.u8.wrap (((BitVec.ofInt IntKind.u8.bits ((x : Nat) : Int) &&& BitVec.ofInt IntKind.u8.bits ((128 : Nat) : Int)).toNat : Nat) : Int) != ((0 : Nat) : Int)) = decide (128 ≤ x)) ∧ ((IntKind.u8.wrap (((BitVec.ofInt IntKind.u8.bits ((x : Nat) : Int) &&& BitVec.ofInt IntKind.u8.bits ((64 : Nat) : Int)).toNat : Nat) : Int) != ((0 : Nat) : Int)) = decide (x / 64 % 2 = 1)) ∧ ((IntKind.u8.wrap (((BitVec.ofInt IntKind.u8.bits ((x : Nat) : Int) &&& BitVec.ofInt IntKind.u8.bits ((4 : Nat) : Int)).toNat : Nat) : Int) != ((0 : Nat) : Int)) = decide (x / 4 % 2 = 1)) ∧ (IntKind.u8.wrap (((BitVec.ofInt IntKind.u8.bits ((x : Nat) : Int) &&& BitVec.ofInt IntKind.u8.bits ((63 : Nat) : Int)).toNat : Nat) : Int) = ((x % 64 : Nat) : Int)) ∧ (IntKind.u8.wrap (((BitVec.ofInt IntKind.u8.bits ((x : Nat) : Int) &&& BitVec.ofInt IntKind.u8.bits ((3 : Nat) : Int)).toNat : Nat) : Int) = ((x % 4 : Nat) : Int)) := by decide +kernel
theorem pCountW (w0 : World) {x : Nat} (h : x < 256) : CallsA Tryd.prog w0 74 [.c (.val (.int .u8 x))] [] fun r H => r = .t [.c (.val (.bool (decide (128 ≤ x)))), .c (.val (.bool (decide (x / 64 % 2 = 1)))), .c (.val (.int .u8 (x % 64 : Nat)))] ∧ H = [] := by
  obtain ⟨a, b, c, d, e⟩ := and_bit x h
  refine callsA_of_ev c74_ ?_
  conv => whnf
  refine Or.inl ⟨?_, rfl⟩
  rw [← a, ← b, ← d]
  rfl
theorem tocConfigW (w0 : World) {x : Nat} (h : x < 256) : CallsA Tryd.prog w0 23 [.c (.val (.int .u8 x))] [] fun r H => r = .o (.c (.val (.int .u8 (x / 8 : Nat)))) ∧ H = [] := by
  refine callsA_of_ev c23_ ?_
  conv => whnf
  refine Or.inl ⟨?_, rfl⟩
  rw [show ((x / 8 : Nat) : Int) = ((x : Nat) : Int).fdiv (2 ^ min 3 IntKind.u8.bits) from (nshr8 x 3 (by omega)).symm]
  rfl
theorem tocCodeW (w0 : World) {x : Nat} (h : x < 256) : CallsA Tryd.prog w0 52 [.c (.val (.int .u8 x))] [] fun r H => r = .o (.c (.val (.int .u8 (x % 4 : Nat)))) ∧ H = [] := by
  obtain ⟨a, b, c, d, e⟩ := and_bit x h
  refine callsA_of_ev c52_ ?_
  conv => whnf
  refine Or.inl ⟨?_, rfl⟩
  rw [← e]
  rfl
theorem tocStereoW (w0 : World) {x : Nat} (h : x < 256) : CallsA Tryd.prog w0 24 [.c (.val (.int .u8 x))] [] fun r H => r = .o (.c (.val (.bool (decide (x / 4 % 2 = 1))))) ∧ H = [] := by
  obtain ⟨a, b, c, d, e⟩ := and_bit x h
  refine callsA_of_ev c24_ ?_
  conv => whnf
  refine Or.inl ⟨?_, rfl⟩
  rw [← c]
  rfl
end Go.Proofs.YtknfakehijoogaaDoor

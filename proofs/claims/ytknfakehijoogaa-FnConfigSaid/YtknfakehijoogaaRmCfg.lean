/- What the configurations tell, as the reference has it and as the package has it. -/
import Derived.Test.YtknfakehijoogaaRmC
namespace Go.Proofs.Ytknfakehijoogaa
open Go Go.Vc
set_option maxRecDepth 100000
set_option maxHeartbeats 8000000
set_option linter.unusedSimpArgs false

def cfgMode (n : Nat) : Nat := [1, 1, 1, 1, 1, 1, 1, 1, 1, 1, 1, 1, 3, 3, 3, 3].getD n 2
def cfgBand (n : Nat) : Nat := [1, 1, 1, 1, 2, 2, 2, 2, 3, 3, 3, 3, 4, 4, 5, 5, 1, 1, 1, 1, 3, 3, 3, 3, 4, 4, 4, 4].getD n 5
def cfgRate (b : Nat) : Nat := [0, 8000, 12000, 16000, 24000, 48000].getD b 0
def cfgDur (n : Nat) : Nat := [480, 960, 1920, 2880, 480, 960, 1920, 2880, 480, 960, 1920, 2880, 480, 960, 480, 960, 120, 240, 480, 960, 120, 240, 480, 960, 120, 240, 480, 960, 120, 240, 480, 960].getD n 0
theorem durationW (w0 : World) : ∀ n, n < 32 → CallsA Try.prog w0 7 [.c (.val (.int .i64 (n : Nat)))] [] fun r H => r = i64 (cfgDur n : Nat) ∧ H = [] := by
  intro n h
  refine callsA_of_ev c7_ ?_
  iterate 32 (rcases n with _ | n; focus (
    (conv => whnf)
    repeat' (first
      | exact Or.inl ⟨rfl, rfl⟩
      | (refine Or.inl ?_; (conv => whnf))
      | (refine ⟨fun h => absurd h (by decide), fun _ => ?_⟩; (conv => whnf))
      | (refine ⟨fun _ => ?_, fun h => absurd h (by decide)⟩; (conv => whnf))
      | (refine ⟨by decide, _, rfl, ?_⟩; (conv => whnf))
      | (refine ⟨by decide, ?_⟩; (conv => whnf)))))
  omega
theorem sConfigTellW (w0 : World) : ∀ n, n < 32 → CallsA Try.prog w0 4 [.c (.val (.int .i64 (n : Nat)))] [] fun r H => r = .t [.c (.val (.int .i64 (cfgMode n : Nat))), .c (.val (.int .i64 (cfgBand n : Nat))), .c (.val (.int .i64 (cfgRate (cfgBand n) : Nat))), .c (.val (.int .i64 (cfgDur n * 62500 / 3 : Nat))), .c (.val (.int .i64 ((1 : Nat) : Int)))] ∧ H = [] := by
  intro n h
  refine callsA_of_ev c4_ ?_
  iterate 32 (rcases n with _ | n; focus (
    (conv => whnf)
    repeat' (first
      | exact Or.inl ⟨rfl, rfl⟩
      | (refine (durationW w0 _ (by decide)).mono ?_; rintro _ _ ⟨rfl, rfl⟩; (conv => whnf))
      | (refine Or.inl ?_; (conv => whnf))
      | (refine ⟨fun h => absurd h (by decide), fun _ => ?_⟩; (conv => whnf))
      | (refine ⟨fun _ => ?_, fun h => absurd h (by decide)⟩; (conv => whnf))
      | (refine ⟨by decide, _, rfl, ?_⟩; (conv => whnf))
      | (refine ⟨by decide, ?_⟩; (conv => whnf))
      | (refine ⟨trivial, ?_⟩; (conv => whnf)))))
  omega
theorem modeW (w0 : World) : ∀ n, n < 32 → CallsA Try.prog w0 12 [.c (.val (.int .u8 (n : Nat)))] [] fun r H => r = .o (.c (.val (.int .u8 (cfgMode n : Nat)))) ∧ H = [] := by
  intro n h
  refine callsA_of_ev c12_ ?_
  iterate 32 (rcases n with _ | n; focus (
    (conv => whnf)
    repeat' (first
      | exact Or.inl ⟨rfl, rfl⟩
      | (refine Or.inl ?_; (conv => whnf))
      | (refine ⟨fun h => absurd h (by decide), fun _ => ?_⟩; (conv => whnf))
      | (refine ⟨fun _ => ?_, fun h => absurd h (by decide)⟩; (conv => whnf))
      | (refine ⟨by decide, _, rfl, ?_⟩; (conv => whnf))
      | (refine ⟨by decide, ?_⟩; (conv => whnf))
      | (refine ⟨trivial, ?_⟩; (conv => whnf)))))
  omega
theorem bandwidthW (w0 : World) : ∀ n, n < 32 → CallsA Try.prog w0 13 [.c (.val (.int .u8 (n : Nat)))] [] fun r H => r = .o (.c (.val (.int .u8 (cfgBand n : Nat)))) ∧ H = [] := by
  intro n h
  refine callsA_of_ev c13_ ?_
  iterate 32 (rcases n with _ | n; focus (
    (conv => whnf)
    repeat' (first
      | exact Or.inl ⟨rfl, rfl⟩
      | (refine Or.inl ?_; (conv => whnf))
      | (refine ⟨fun h => absurd h (by decide), fun _ => ?_⟩; (conv => whnf))
      | (refine ⟨fun _ => ?_, fun h => absurd h (by decide)⟩; (conv => whnf))
      | (refine ⟨by decide, _, rfl, ?_⟩; (conv => whnf))
      | (refine ⟨by decide, ?_⟩; (conv => whnf))
      | (refine ⟨trivial, ?_⟩; (conv => whnf)))))
  omega
theorem sampleRateW (w0 : World) : ∀ n, n < 6 → CallsA Try.prog w0 14 [.c (.val (.int .u8 (n : Nat)))] [] fun r H => r = i64 (cfgRate n : Nat) ∧ H = [] := by
  intro n h
  refine callsA_of_ev c14_ ?_
  iterate 6 (rcases n with _ | n; focus (
    (conv => whnf)
    repeat' (first
      | exact Or.inl ⟨rfl, rfl⟩
      | (refine Or.inl ?_; (conv => whnf))
      | (refine ⟨fun h => absurd h (by decide), fun _ => ?_⟩; (conv => whnf))
      | (refine ⟨fun _ => ?_, fun h => absurd h (by decide)⟩; (conv => whnf))
      | (refine ⟨by decide, _, rfl, ?_⟩; (conv => whnf))
      | (refine ⟨by decide, ?_⟩; (conv => whnf))
      | (refine ⟨trivial, ?_⟩; (conv => whnf)))))
  omega
def cfgFd (n : Nat) : Nat := [3, 4, 5, 6, 3, 4, 5, 6, 3, 4, 5, 6, 3, 4, 3, 4, 1, 2, 3, 4, 1, 2, 3, 4, 1, 2, 3, 4, 1, 2, 3, 4].getD n 0
def fdNs (n : Nat) : Nat := [0, 2500000, 5000000, 10000000, 20000000, 40000000, 60000000].getD n 0
theorem frameDurationW (w0 : World) : ∀ n, n < 32 → CallsA Try.prog w0 15 [.c (.val (.int .u8 (n : Nat)))] [] fun r H => r = .o (.c (.val (.int .u8 (cfgFd n : Nat)))) ∧ H = [] := by
  intro n h
  refine callsA_of_ev c15_ ?_
  iterate 32 (rcases n with _ | n; focus (
    (conv => whnf)
    repeat' (first
      | exact Or.inl ⟨rfl, rfl⟩
      | (refine Or.inl ?_; (conv => whnf))
      | (refine ⟨fun h => absurd h (by decide), fun _ => ?_⟩; (conv => whnf))
      | (refine ⟨fun _ => ?_, fun h => absurd h (by decide)⟩; (conv => whnf))
      | (refine ⟨by decide, _, rfl, ?_⟩; (conv => whnf))
      | (refine ⟨by decide, ?_⟩; (conv => whnf))
      | (refine ⟨trivial, ?_⟩; (conv => whnf)))))
  omega
theorem nanosecondsW (w0 : World) : ∀ n, n < 7 → CallsA Try.prog w0 16 [.c (.val (.int .u8 (n : Nat)))] [] fun r H => r = i64 (fdNs n : Nat) ∧ H = [] := by
  intro n h
  refine callsA_of_ev c16_ ?_
  iterate 7 (rcases n with _ | n; focus (
    (conv => whnf)
    repeat' (first
      | exact Or.inl ⟨rfl, rfl⟩
      | (refine Or.inl ?_; (conv => whnf))
      | (refine ⟨fun h => absurd h (by decide), fun _ => ?_⟩; (conv => whnf))
      | (refine ⟨fun _ => ?_, fun h => absurd h (by decide)⟩; (conv => whnf))
      | (refine ⟨by decide, _, rfl, ?_⟩; (conv => whnf))
      | (refine ⟨by decide, ?_⟩; (conv => whnf))
      | (refine ⟨trivial, ?_⟩; (conv => whnf)))))
  omega
theorem cfg_facts : ∀ n, n < 32 → cfgBand n < 6 ∧ cfgFd n < 7 ∧ fdNs (cfgFd n) = cfgDur n * 62500 / 3 ∧ cfgMode n < 4 := by decide
theorem tellsW (w0 : World) {n : Nat} (h : n < 32) : CallsA Try.prog w0 8 [.c (.val (.int .u8 (n : Nat)))] [] fun r H => r = .t [.c (.val (.int .i64 (cfgMode n : Nat))), .c (.val (.int .u8 (cfgBand n : Nat))), .c (.val (.int .i64 (cfgRate (cfgBand n) : Nat))), .c (.val (.int .i64 (fdNs (cfgFd n) : Nat)))] ∧ H = [] := by
  obtain ⟨f1, f2, f3, f4⟩ := cfg_facts n h
  refine callsA_of_ev c8_ ?_
  conv => whnf
  refine (modeW w0 n h).mono ?_
  rintro _ _ ⟨rfl, rfl⟩
  conv => whnf
  refine (bandwidthW w0 n h).mono ?_
  rintro _ _ ⟨rfl, rfl⟩
  conv => whnf
  refine (bandwidthW w0 n h).mono ?_
  rintro _ _ ⟨rfl, rfl⟩
  conv => whnf
  refine (sampleRateW w0 _ f1).mono ?_
  rintro _ _ ⟨rfl, rfl⟩
  conv => whnf
  refine (frameDurationW w0 n h).mono ?_
  rintro _ _ ⟨rfl, rfl⟩
  conv => whnf
  refine (nanosecondsW w0 _ f2).mono ?_
  rintro _ _ ⟨rfl, rfl⟩
  conv => whnf
  rw [nwrapi (n := cfgMode n) (by omega)]
  exact Or.inl ⟨rfl, rfl⟩
theorem iConfigTellW (w0 : World) {n : Nat} (h : n < 32) : CallsA Try.prog w0 5 [.c (.val (.int .i64 (n : Nat)))] [] fun r H => r = .t [.c (.val (.int .i64 (cfgMode n : Nat))), .c (.val (.int .i64 (cfgBand n : Nat))), .c (.val (.int .i64 (cfgRate (cfgBand n) : Nat))), .c (.val (.int .i64 (fdNs (cfgFd n) : Nat)))] ∧ H = [] := by
  obtain ⟨f1, f2, f3, f4⟩ := cfg_facts n h
  refine callsA_of_ev c5_ ?_
  conv => whnf
  rw [nwrap8 (n := n) (by omega)]
  refine (tellsW w0 h).mono ?_
  rintro _ _ ⟨rfl, rfl⟩
  conv => whnf
  rw [nwrapi (n := cfgBand n) (by omega)]
  exact Or.inl ⟨rfl, rfl⟩
theorem configW (w0 : World) {n : Nat} (hn : n < 256) : CallsA Try.prog w0 3 [.c (.val (.int .u8 n))] [] fun r _ => r = .o (.c (.val (.bool true))) := by
  obtain ⟨f1, f2, f3, f4⟩ := cfg_facts (n % 32) (by omega)
  refine callsA_of_ev c3_ ?_
  conv => whnf
  simp (disch := omega) only [ntmod, nwrapi]
  refine (sConfigTellW w0 (n % 32) (by omega)).mono ?_
  rintro _ _ ⟨rfl, rfl⟩
  conv => whnf
  refine Or.inl ?_
  conv => whnf
  refine ⟨fun h => absurd h (by decide), fun _ => ?_⟩
  conv => whnf
  simp (disch := omega) only [ntmod, nwrapi]
  refine (iConfigTellW w0 (n := n % 32) (by omega)).mono ?_
  rintro _ _ ⟨rfl, rfl⟩
  rw [f3]
  conv => whnf
  refine ⟨fun _ => ?_, fun h => absurd rfl (ieq_f h)⟩
  conv => whnf
  refine ⟨fun _ => ?_, fun h => absurd rfl (ieq_f h)⟩
  conv => whnf
  refine ⟨fun _ => ?_, fun h => absurd rfl (ieq_f h)⟩
  conv => whnf
  refine ⟨fun _ => ?_, fun h => absurd rfl (ieq_f h)⟩
  conv => whnf
  refine (aliveW w0).mono ?_
  rintro _ _ ⟨rfl, rfl⟩
  conv => whnf
  exact Or.inl rfl
end Go.Proofs.Ytknfakehijoogaa

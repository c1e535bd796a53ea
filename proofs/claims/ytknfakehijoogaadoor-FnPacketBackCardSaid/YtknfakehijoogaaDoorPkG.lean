/- The package takes a packet apart: as a whole. -/
import Derived.Test.YtknfakehijoogaaDoorPkF
namespace Go.Proofs.YtknfakehijoogaaDoor
open Go Go.Vc
set_option maxRecDepth 100000
set_option maxHeartbeats 8000000

theorem part1_bounds {b : ByteArray} {p e : Nat} (h : part1 b = some (p, e)) (h2 : 2 ≤ b.size) : 2 ≤ p ∧ p ≤ e ∧ e ≤ b.size := by
  unfold part1 at h
  split at h
  · unfold padded at h
    split at h
    · cases h
    · rename_i k hk
      obtain ⟨_, _, g3⟩ := pads_ge hk
      split at h
      · cases h
      · cases h
        omega
  · cases h
    omega
theorem pCode3W {w0 : World} (he : errAt w0 1) {b : ByteArray} (h : 1 ≤ b.size) (hs : b.size ≤ 100000) :
    CallsA Tryd.prog w0 56 [.c (.vec 0 b.size), .c (.val (.int .u8 (byt b 0 : Nat)))] [bytB b] (okR b (if b.size < 2 then none
  else if byt b 1 % 64 = 0 then none
  else if 5760 < byt b 1 % 64 * dura (byt b 0 / 8) then none
  else match part1 b with
    | none => none
    | some (p, e) =>
      if byt b 1 / 128 = 0 then (if (e - p) % (byt b 1 % 64) ≠ 0 then none else if 1275 < (e - p) / (byt b 1 % 64) then none else some (evenly p ((e - p) / (byt b 1 % 64)) (byt b 1 % 64)))
      else match flens b e p (byt b 1 % 64 - 1) with
        | none => none
        | some (l, q) => if e - q < total l then none else if 1275 < e - q - total l then none else some (cuts q (l ++ [e - q - total l])))) := by
  have hpad := fun h2 => pPadW he (b := b) h2 hs
  have hcbr := fun p e m h0 h1 h2 h3 h4 => pCBRW he (b := b) hs (p := p) (e := e) (m := m) h0 h1 h2 h3 h4
  have hvbr := fun p e m h0 h1 h2 h3 h4 => pVBRW he (b := b) hs (p := p) (e := e) (m := m) h0 h1 h2 h3 h4
  obtain ⟨te, ue, he⟩ := he
  have hb0 := byt_lt b 0
  have hb1 := byt_lt b 1
  generalize hF : (if b.size < 2 then none
  else if byt b 1 % 64 = 0 then none
  else if 5760 < byt b 1 % 64 * dura (byt b 0 / 8) then none
  else match part1 b with
    | none => none
    | some (p, e) =>
      if byt b 1 / 128 = 0 then (if (e - p) % (byt b 1 % 64) ≠ 0 then none else if 1275 < (e - p) / (byt b 1 % 64) then none else some (evenly p ((e - p) / (byt b 1 % 64)) (byt b 1 % 64)))
      else match flens b e p (byt b 1 % 64 - 1) with
        | none => none
        | some (l, q) => if e - q < total l then none else if 1275 < e - q - total l then none else some (cuts q (l ++ [e - q - total l]))) = F
  refine callsA_of_ev c56_ ?_
  conv => whnf
  refine Or.inl ?_
  conv => whnf
  refine ⟨fun c1 => ?_, fun c1 => ?_⟩
  · have c1 : b.size < 2 := lt_t c1
    rw [if_pos c1] at hF
    conv => whnf
    refine ⟨.iface te ue, he, rfl, ?_⟩
    conv => whnf
    exact Or.inl (.inl ⟨hF.symm, ⟨te, ue, rfl⟩, rfl⟩)
  have c1 : 2 ≤ b.size := lt_f c1
  rw [if_neg (by omega)] at hF
  conv => whnf
  refine ⟨by omega, ?_⟩
  conv => whnf
  refine ⟨_, byt_vec (by omega), ?_⟩
  conv => whnf
  refine CallsA.lift (H0 := []) [] rfl trivial rfl (pCountW w0 (x := byt b 1) (by omega)) ?_
  rintro _ _ ⟨rfl, rfl⟩
  conv => whnf
  refine Or.inl ?_
  conv => whnf
  refine ⟨fun c2 => ?_, fun c2 => ?_⟩
  · have c2 : byt b 1 % 64 = 0 := beq_t c2
    rw [if_pos c2] at hF
    conv => whnf
    refine ⟨.iface te ue, he, rfl, ?_⟩
    conv => whnf
    exact Or.inl (.inl ⟨hF.symm, ⟨te, ue, rfl⟩, rfl⟩)
  have c2 : byt b 1 % 64 ≠ 0 := beq_f c2
  rw [if_neg c2] at hF
  obtain ⟨f1, f2, f3⟩ := cfg_facts (byt b 0 / 8) (by omega)
  conv => whnf
  refine Or.inl ?_
  conv => whnf
  refine CallsA.lift (H0 := []) [] rfl trivial rfl (tocConfigW w0 (x := byt b 0) (by omega)) ?_
  rintro _ _ ⟨rfl, rfl⟩
  conv => whnf
  refine CallsA.lift (H0 := []) [] rfl trivial rfl (frameDurationW w0 (byt b 0 / 8) (by omega)) ?_
  rintro _ _ ⟨rfl, rfl⟩
  conv => whnf
  refine CallsA.lift (H0 := []) [] rfl trivial rfl (nanosecondsW w0 _ f1) ?_
  rintro _ _ ⟨rfl, rfl⟩
  conv => whnf
  have hmul : byt b 1 % 64 * fdNs (cfgFd (byt b 0 / 8)) ≤ 63 * 60000000 := Nat.mul_le_mul (by omega) (by omega)
  have hmd : 6 * (byt b 1 % 64 * fdNs (cfgFd (byt b 0 / 8))) = 125000 * (byt b 1 % 64 * dura (byt b 0 / 8)) := by
    rw [Nat.mul_left_comm, f2, ← Nat.mul_assoc, Nat.mul_comm]
  rw [nwrapi (n := byt b 1 % 64) (by omega), nmul, nwrapi (n := byt b 1 % 64 * fdNs (cfgFd (byt b 0 / 8))) (by omega)]
  generalize byt b 1 % 64 * fdNs (cfgFd (byt b 0 / 8)) = ns at *
  refine ⟨fun c3 => ?_, fun c3 => ?_⟩
  · have c3 : 120000000 < ns := gt_t c3
    rw [if_pos (by omega)] at hF
    conv => whnf
    refine ⟨.iface te ue, he, rfl, ?_⟩
    conv => whnf
    exact Or.inl (.inl ⟨hF.symm, ⟨te, ue, rfl⟩, rfl⟩)
  have c3 : ns ≤ 120000000 := gt_f c3
  rw [if_neg (by omega)] at hF
  have hp1 : part1 b = if byt b 1 / 64 % 2 = 1 then padded b else some (2, b.size) := rfl
  have hbd := fun p e h => part1_bounds (b := b) (p := p) (e := e) h c1
  conv => whnf
  refine Or.inr ⟨{x : Nat × Nat // part1 b = some x}, fun ⟨(p, e), _⟩ => ⟨[(0, .o (.c (.vec 0 b.size))), (6, .o (.c (.val (.bool (decide (128 ≤ byt b 1)))))), (8, .o (.c (.val (.int .u8 (byt b 1 % 64 : Nat))))), (9, .o (.c (.val (.int .i64 p)))), (10, .o (.c (.val (.int .i64 e))))], [bytB b]⟩, ?_, fun ⟨(p, e), hpe⟩ => ?_⟩
  · conv => whnf
    refine ⟨fun c4 => ?_, fun c4 => ?_⟩
    · have c4 : byt b 1 / 64 % 2 = 1 := of_decide_eq_true c4
      rw [if_pos c4] at hp1
      conv => whnf
      refine (hpad c1).mono ?_
      rintro _ _ ⟨rfl, ⟨hn, t, u, rfl⟩ | ⟨p, e, hn, rfl⟩⟩
      · rw [hp1, hn] at hF
        conv => whnf
        refine ⟨fun _ => ?_, (fun h => by cases h)⟩
        conv => whnf
        exact Or.inl (.inl ⟨hF.symm, ⟨t, u, rfl⟩, rfl⟩)
      · conv => whnf
        refine ⟨(fun h => by cases h), fun _ => ?_⟩
        conv => whnf
        exact ⟨⟨(p, e), hp1.trans hn⟩, [0], ⟨rfl, ⟨rfl, rfl, trivial⟩, rfl⟩, rfl, rfl, rfl, rfl, rfl, trivial⟩
    · have c4 : ¬ byt b 1 / 64 % 2 = 1 := of_decide_eq_false c4
      rw [if_neg c4] at hp1
      conv => whnf
      exact ⟨⟨(2, b.size), hp1⟩, [0], ⟨rfl, ⟨rfl, rfl, trivial⟩, rfl⟩, rfl, rfl, rfl, rfl, rfl, trivial⟩
  obtain ⟨g1, g2, g3⟩ := hbd p e hpe
  rw [hpe] at hF
  conv => whnf
  refine Or.inl ?_
  conv => whnf
  refine ⟨fun h => absurd (lt_t h) (by omega), fun _ => ?_⟩
  conv => whnf
  refine Or.inl ?_
  conv => whnf
  refine ⟨fun c5 => ?_, fun c5 => ?_⟩
  · have c5 : byt b 1 < 128 := by
      rcases Nat.lt_or_ge (byt b 1) 128 with c | c
      · exact c
      · rw [decide_eq_true c] at c5
        cases c5
    have hF : (if (e - p) % (byt b 1 % 64) ≠ 0 then none else if 1275 < (e - p) / (byt b 1 % 64) then none else some (evenly p ((e - p) / (byt b 1 % 64)) (byt b 1 % 64))) = F := by
      rw [← hF]
      exact (if_pos (by omega)).symm
    conv => whnf
    have hc := hcbr p e (byt b 1 % 64) (by omega) g2 g3 (by omega) (by omega)
    rw [hF] at hc
    refine hc.mono ?_
    rintro _ _ (⟨hn, ⟨t, u, rfl⟩, rfl⟩ | ⟨xs, rest, l, hn, hne, hx, rfl, rfl, rfl⟩)
    · conv => whnf
      exact Or.inl (.inl ⟨hn, ⟨t, u, rfl⟩, rfl⟩)
    · conv => whnf
      exact Or.inl (.inr ⟨xs, _, l, hn, hne, hx, rfl, rfl, rfl⟩)
  · have c5 : 128 ≤ byt b 1 := by
      rcases Nat.lt_or_ge (byt b 1) 128 with c | c
      · rw [decide_eq_false (by omega)] at c5
        cases c5
      · exact c
    have hF : (match flens b e p (byt b 1 % 64 - 1) with
        | none => none
        | some (l, q) => if e - q < total l then none else if 1275 < e - q - total l then none else some (cuts q (l ++ [e - q - total l]))) = F := by
      rw [← hF]
      exact (if_neg (by omega)).symm
    conv => whnf
    have hc := hvbr p e (byt b 1 % 64) (by omega) g2 g3 (by omega) (by omega)
    refine hc.mono ?_
    rintro _ _ (⟨hn, ⟨t, u, rfl⟩, rfl⟩ | ⟨xs, rest, l, hn, hne, hx, rfl, rfl, rfl⟩)
    · conv => whnf
      exact Or.inl (.inl ⟨hF.symm.trans hn, ⟨t, u, rfl⟩, rfl⟩)
    · conv => whnf
      exact Or.inl (.inr ⟨xs, _, l, hF.symm.trans hn, hne, hx, rfl, rfl, rfl⟩)
end Go.Proofs.YtknfakehijoogaaDoor

/- Which operations the laws read. -/
import Derived.Test.YtkomikpfnogjcaaRcX
namespace Go.Proofs.Ytkomikpfnogjcaa
open Go Go.Vc
set_option maxRecDepth 100000
set_option maxHeartbeats 4000000

theorem ieq_t {a b : Int} (h : (a == b) = true) : a = b := eq_of_beq h
theorem ieq_f {a b : Int} (h : (a == b) = false) : a ≠ b := by
  rintro rfl
  rw [beq_self_eq_true] at h
  cases h

/-- Parts of a total, and Laplace's, as 'valid' lets them in. -/
theorem validW (w0 : World) {o : OpV} (_h : o.fits w0) (hk : o.act ≠ 1 ∧ o.act ≠ 2 ∧ o.act ≠ 3 ∧ o.act ≠ 4) : CallsA Try.prog w0 52 [.a o.cells] [] fun r H' => ∃ b : Bool, r = .o (.c (.val (.bool b))) ∧ H' = [] ∧ (b = true → (o.act = 0 ∧ o.a < o.b ∧ o.b ≤ o.c ∧ 2 ≤ o.c ∧ o.c ≤ 65535) ∨ (o.act = 5 ∧ 1 ≤ o.a ∧ o.a < 32000 ∧ o.b < 16000 ∧ -60 < o.v ∧ o.v < 60)) := by
  obtain ⟨act, oa, ob, oc, ov, otab, rows⟩ := o
  obtain ⟨k1, k2, k3, k4⟩ := hk
  simp only at k1 k2 k3 k4
  refine callsA_of_ev c52_ ?_
  conv => whnf
  refine Or.inl ?_
  conv => whnf
  refine ⟨fun h0 => ?_, fun h0 => ?_⟩
  · have h0 : act = 0 := ieq_t h0
    conv => whnf
    refine ⟨fun h1 => ?_, fun _ => ?_⟩
    · have h1 : oa < ob := lt_t h1
      conv => whnf
      refine ⟨fun h2 => ?_, fun _ => ?_⟩
      · have h2 : ob ≤ oc := le_t h2
        conv => whnf
        refine ⟨fun h3 => ?_, fun _ => ?_⟩
        · have h3 : 2 ≤ oc := ge_t h3
          conv => whnf
          exact Or.inr ⟨[], .o (.c (.val (.bool _))), [], ⟨rfl, trivial, rfl⟩, rfl, _, rfl, rfl, fun h4 => Or.inl ⟨h0, h1, h2, h3, le_t h4⟩⟩
        · conv => whnf
          exact Or.inr ⟨[], .o (.c (.val (.bool false))), [], ⟨rfl, trivial, rfl⟩, rfl, false, rfl, rfl, (fun h => by cases h)⟩
      · conv => whnf
        exact Or.inr ⟨[], .o (.c (.val (.bool false))), [], ⟨rfl, trivial, rfl⟩, rfl, false, rfl, rfl, (fun h => by cases h)⟩
    · conv => whnf
      exact Or.inr ⟨[], .o (.c (.val (.bool false))), [], ⟨rfl, trivial, rfl⟩, rfl, false, rfl, rfl, (fun h => by cases h)⟩
  · conv => whnf
    refine ⟨fun h => absurd (ieq_t h) k1, fun _ => ?_⟩
    conv => whnf
    refine ⟨fun h => absurd (ieq_t h) k2, fun _ => ?_⟩
    conv => whnf
    refine ⟨fun h => absurd (ieq_t h) k3, fun _ => ?_⟩
    conv => whnf
    refine ⟨fun h => absurd (ieq_t h) k4, fun _ => ?_⟩
    conv => whnf
    refine ⟨fun h5 => ?_, fun _ => ?_⟩
    · have h5 : act = 5 := ieq_t h5
      conv => whnf
      refine ⟨fun h1 => ?_, fun _ => ?_⟩
      · have h1 : 1 ≤ oa := ge_t h1
        conv => whnf
        refine ⟨fun h2 => ?_, fun _ => ?_⟩
        · have h2 : oa < 32000 := lt_t h2
          conv => whnf
          refine ⟨fun h3 => ?_, fun _ => ?_⟩
          · have h3 : ob < 16000 := lt_t h3
            conv => whnf
            refine ⟨fun h4 => ?_, fun _ => ?_⟩
            · have h4 : -60 < ov := of_decide_eq_true h4
              conv => whnf
              exact Or.inr ⟨[], .o (.c (.val (.bool _))), [], ⟨rfl, trivial, rfl⟩, rfl, _, rfl, rfl, fun h6 => Or.inr ⟨h5, h1, h2, h3, h4, of_decide_eq_true h6⟩⟩
            · conv => whnf
              exact Or.inr ⟨[], .o (.c (.val (.bool false))), [], ⟨rfl, trivial, rfl⟩, rfl, false, rfl, rfl, (fun h => by cases h)⟩
          · conv => whnf
            exact Or.inr ⟨[], .o (.c (.val (.bool false))), [], ⟨rfl, trivial, rfl⟩, rfl, false, rfl, rfl, (fun h => by cases h)⟩
        · conv => whnf
          exact Or.inr ⟨[], .o (.c (.val (.bool false))), [], ⟨rfl, trivial, rfl⟩, rfl, false, rfl, rfl, (fun h => by cases h)⟩
      · conv => whnf
        exact Or.inr ⟨[], .o (.c (.val (.bool false))), [], ⟨rfl, trivial, rfl⟩, rfl, false, rfl, rfl, (fun h => by cases h)⟩
    · conv => whnf
      exact Or.inr ⟨[], .o (.c (.val (.bool false))), [], ⟨rfl, trivial, rfl⟩, rfl, false, rfl, rfl, (fun h => by cases h)⟩
/-- What 'readable' lets in. -/
def OpV.reads (o : OpV) : Prop := (o.act = 0 ∧ o.a < o.b ∧ o.b ≤ o.c ∧ 2 ≤ o.c ∧ o.c ≤ 65535) ∨ (o.act = 1 ∧ 1 ≤ o.a ∧ o.a ≤ 15) ∨ (o.act = 2 ∧ ∃ total rest, TabFine o.rows total rest) ∨ (o.act = 3 ∧ 2 ≤ o.a) ∨ (o.act = 4 ∧ o.a ≤ 25) ∨
  (o.act = 5 ∧ 1 ≤ o.a ∧ o.a < 32000 ∧ o.b < 16000 ∧ -60 < o.v ∧ o.v < 60) ∨ (o.act = 6 ∧ o.a < 1048576)
theorem OpV.reads.good {w0 : World} {o : OpV} (h : o.reads) (hf : o.fits w0) : o.good w0 := by
  refine ⟨hf.a32, hf.b32, hf.c32, ?_⟩
  rcases h with ⟨e, h1, h2, h3, h4⟩ | ⟨e, h1, h2⟩ | ⟨e, total, rest, h1⟩ | ⟨e, h1⟩ | ⟨e, h1⟩ | ⟨e, h1, h2, h3, _⟩ | ⟨e, h1⟩
  · exact Or.inl ⟨e, by omega, by omega, by omega⟩
  · exact Or.inr (Or.inl ⟨e, h1, h2⟩)
  · refine Or.inr (Or.inr (Or.inl ⟨e, total, rest, ?_⟩))
    rcases hf.tab with ⟨_, h2⟩ | ⟨ta, c, h2, _, _, h3⟩
    · have := h1.cons
      rw [h2] at this
      cases this
    · exact ⟨ta, c, h1.cons, h1.ok, h2, h3⟩
  · exact Or.inr (Or.inr (Or.inr (Or.inl ⟨e, h1⟩)))
  · exact Or.inr (Or.inr (Or.inr (Or.inr (Or.inl ⟨e, by omega⟩))))
  · exact Or.inr (Or.inr (Or.inr (Or.inr (Or.inr (Or.inl ⟨e, by omega, by omega, by omega⟩)))))
  · exact Or.inr (Or.inr (Or.inr (Or.inr (Or.inr (Or.inr e)))))
theorem readableW (w0 : World) {o : OpV} (h : o.fits w0) (n : Int) : CallsA Try.prog w0 26 [.a o.cells, .c (.val (.int .i64 n))] [] fun r H' => ∃ b : Bool, r = .o (.c (.val (.bool b))) ∧ H' = [] ∧ (b = true → o.reads ∧ (o.act = 6 → (o.a : Int) ≤ n)) := by
  obtain ⟨act, oa, ob, oc, ov, otab, rows⟩ := o
  have a32 := h.a32
  simp only at a32
  refine callsA_of_ev c26_ ?_
  conv => whnf
  refine Or.inl ?_
  conv => whnf
  refine ⟨fun h0 => ?_, fun h0 => ?_⟩
  · have h0 : act = 3 := ieq_t h0
    conv => whnf
    exact Or.inr ⟨[], .o (.c (.val (.bool _))), [], ⟨rfl, trivial, rfl⟩, rfl, _, rfl, rfl, fun h1 => ⟨Or.inr (Or.inr (Or.inr (Or.inl ⟨h0, ge_t h1⟩))), fun h => by subst h0; cases h⟩⟩
  · have h0 : act ≠ 3 := ieq_f h0
    conv => whnf
    refine ⟨fun h1 => ?_, fun h1 => ?_⟩
    · have h1 : act = 4 := ieq_t h1
      conv => whnf
      exact Or.inr ⟨[], .o (.c (.val (.bool _))), [], ⟨rfl, trivial, rfl⟩, rfl, _, rfl, rfl, fun h2 => ⟨Or.inr (Or.inr (Or.inr (Or.inr (Or.inl ⟨h1, le_t h2⟩)))), fun h => by subst h1; cases h⟩⟩
    · have h1 : act ≠ 4 := ieq_f h1
      conv => whnf
      refine ⟨fun h2 => ?_, fun h2 => ?_⟩
      · have h2 : act = 6 := ieq_t h2
        conv => whnf
        refine ⟨fun h3 => ?_, fun h3 => ?_⟩
        · have h3 : IntKind.i64.wrap (oa : Int) ≤ n := of_decide_eq_true h3
          rw [nwrapi (by omega)] at h3
          conv => whnf
          exact Or.inr ⟨[], .o (.c (.val (.bool _))), [], ⟨rfl, trivial, rfl⟩, rfl, _, rfl, rfl, fun h4 => ⟨Or.inr (Or.inr (Or.inr (Or.inr (Or.inr (Or.inr ⟨h2, lt_t h4⟩))))), fun _ => h3⟩⟩
        · conv => whnf
          exact Or.inr ⟨[], .o (.c (.val (.bool false))), [], ⟨rfl, trivial, rfl⟩, rfl, false, rfl, rfl, (fun h => by cases h)⟩
      · have h2 : act ≠ 6 := ieq_f h2
        conv => whnf
        refine ⟨fun h3 => ?_, fun h3 => ?_⟩
        · have h3 : act = 2 := ieq_t h3
          conv => whnf
          refine CallsA.lift (H0 := []) [] rfl trivial rfl (tabledW w0 h) ?_
          rintro _ _ ⟨b, rfl, rfl, hb⟩
          conv => whnf
          exact Or.inr ⟨[], .o (.c (.val (.bool _))), [], ⟨rfl, trivial, rfl⟩, rfl, _, rfl, rfl, fun h4 => ⟨Or.inr (Or.inr (Or.inl ⟨h3, hb h4⟩)), fun h => by subst h3; cases h⟩⟩
        · have h3 : act ≠ 2 := ieq_f h3
          conv => whnf
          refine ⟨fun h4 => ?_, fun h4 => ?_⟩
          · have h4 : act = 1 := ieq_t h4
            conv => whnf
            refine ⟨fun h5 => ?_, fun h5 => ?_⟩
            · have h5 : 1 ≤ oa := ge_t h5
              conv => whnf
              exact Or.inr ⟨[], .o (.c (.val (.bool _))), [], ⟨rfl, trivial, rfl⟩, rfl, _, rfl, rfl, fun h6 => ⟨Or.inr (Or.inl ⟨h4, h5, le_t h6⟩), fun h => by subst h4; cases h⟩⟩
            · conv => whnf
              exact Or.inr ⟨[], .o (.c (.val (.bool false))), [], ⟨rfl, trivial, rfl⟩, rfl, false, rfl, rfl, (fun h => by cases h)⟩
          · have h4 : act ≠ 1 := ieq_f h4
            conv => whnf
            refine CallsA.lift (H0 := []) [] rfl trivial rfl (validW w0 h ⟨h4, h3, h0, h1⟩) ?_
            rintro _ _ ⟨b, rfl, rfl, hb⟩
            conv => whnf
            refine Or.inr ⟨[], .o (.c (.val (.bool _))), [], ⟨rfl, trivial, rfl⟩, rfl, _, rfl, rfl, fun h5 => ⟨?_, fun h => absurd h h2⟩⟩
            rcases hb h5 with h6 | h6
            · exact Or.inl h6
            · exact Or.inr (Or.inr (Or.inr (Or.inr (Or.inr (Or.inl h6)))))
end Go.Proofs.Ytkomikpfnogjcaa

/- Which operations the laws let in. -/
import Derived.Test.YtkomikpfnogjcaaRpD
namespace Go.Proofs.Ytkomikpfnogjcaa
open Go Go.Vc
set_option maxRecDepth 100000

theorem validG (w0 : World) {o : OpV} (h : o.fits w0) : CallsA Try.prog w0 52 [.a o.cells] [] fun r H' => ∃ b : Bool, r = .o (.c (.val (.bool b))) ∧ H' = [] ∧ (b = true → o.wr w0 ∧ o.v < 60 ∧ -60 < o.v ∨ o.wr w0 ∧ o.act ≠ 5) := by
  have ha := h.a32
  have hb := h.b32
  have hc := h.c32
  by_cases h1 : o.act = 1
  · refine (valid1 w0 h1).mono ?_
    rintro _ _ ⟨b, rfl, rfl, hq⟩
    exact ⟨b, rfl, rfl, fun e => .inr ⟨⟨ha, hb, hc, .inr (.inl ⟨h1, hq e⟩)⟩, by omega⟩⟩
  by_cases h3 : o.act = 3
  · refine (valid3 w0 h3).mono ?_
    rintro _ _ ⟨b, rfl, rfl, hq⟩
    exact ⟨b, rfl, rfl, fun e => .inr ⟨⟨ha, hb, hc, .inr (.inr (.inr (.inl ⟨h3, hq e⟩)))⟩, by omega⟩⟩
  by_cases h4 : o.act = 4
  · refine (valid4 w0 h4 hb).mono ?_
    rintro _ _ ⟨b, rfl, rfl, hq⟩
    exact ⟨b, rfl, rfl, fun e => .inr ⟨⟨ha, hb, hc, .inr (.inr (.inr (.inr (.inl ⟨h4, hq e⟩))))⟩, by omega⟩⟩
  by_cases h2 : o.act = 2
  · refine (valid2 w0 h h2).mono ?_
    rintro _ _ ⟨b, rfl, rfl, hq⟩
    refine ⟨b, rfl, rfl, fun e => .inr ⟨⟨ha, hb, hc, .inr (.inr (.inl ⟨h2, ?_⟩))⟩, by omega⟩⟩
    obtain ⟨⟨total, rest, hf⟩, q1, q2⟩ := hq e
    have hrl : o.rows.length = rest.length + 1 := by rw [hf.cons, List.length_cons]
    have hl63 := hf.len
    rcases h.tab with ⟨_, hr0⟩ | ⟨ta, c, t1, _, _, t2⟩
    · rw [hr0] at hrl
      cases hrl
    · exact ⟨total, rest, ta, c, hf.cons, hf.ok.lo, hf.t256, by omega, hf.ok.le, by omega, q2, t1, t2⟩
  refine (validW w0 h ⟨h1, h2, h3, h4⟩).mono ?_
  rintro _ _ ⟨b, rfl, rfl, hq⟩
  refine ⟨b, rfl, rfl, fun e => ?_⟩
  rcases hq e with ⟨e0, e1, e2, e3, e4⟩ | ⟨e0, e1, e2, e3, e4, e5⟩
  · exact .inr ⟨⟨ha, hb, hc, .inl ⟨e0, e1, e2, e4⟩⟩, by omega⟩
  · exact .inl ⟨⟨ha, hb, hc, .inr (.inr (.inr (.inr (.inr ⟨e0, e1, by omega, by omega, by omega, by omega⟩))))⟩, e5, e4⟩
end Go.Proofs.Ytkomikpfnogjcaa

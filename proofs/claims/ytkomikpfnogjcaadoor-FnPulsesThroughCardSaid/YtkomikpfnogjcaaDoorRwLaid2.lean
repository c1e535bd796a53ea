/- Slices of slices of whole numbers that came in. -/
import Derived.Test.YtkomikpfnogjcaaDoorRwLaid
import Derived.Test.YtkomikpfnogjcaaDoorPuV
import Derived.Deep.Slices
namespace Go.Proofs.YtkomikpfnogjcaaDoor
open Go Go.Vc Go.Deep
section
variable {H : Type} {enc : TypeId × Value → H} {w : World} {base : Nat} {spare : Nat → Bool} {held : Bool}
theorem opened_intss {n : Nat} {cs : List Value} {x : DataW H × List MemPlace} (h : DataW.trod enc Tryd.prog w base spare held n 33 cs = some x) :
    ∃ v ys, cs = [v] ∧ intssAt w v ys := by
  rcases open_slice Tryd.underlying33 h with ⟨rfl, _⟩ | ⟨a, len, cap, m, k, D, Pl, rfl, _, hl, hm, hmm, _, hel⟩
  · exact ⟨_, [], rfl, Or.inl ⟨rfl, rfl⟩⟩
  · have hcl : Tryd.prog.cellsOf 22 = 1 := by kernel_rfl
    have hml : maxLen ≤ 9223372036854775807 := by decide
    have hle : len ≤ m := by rw [hmm]; split <;> omega
    have hget : ∀ i, i < len → ∃ x : Value × List Int, w.cell? (a.add (i * 1)) = some x.1 ∧ intsAt w x.1 x.2 := by
      intro i hi
      obtain ⟨cs', hc, ht⟩ := hel i (by omega)
      obtain ⟨v, ys, rfl, hys⟩ := opened_ints ht
      rw [hcl] at hc
      obtain ⟨_, _, hcc⟩ := World.cells?_some hc
      refine ⟨(v, ys), ?_, hys⟩
      have := hcc 0 (by simp)
      rw [show (a.add (i * 1)).add 0 = a.add (i * 1) by rw [add_add]; rfl] at this
      exact this
    have : Inhabited (Value × List Int) := ⟨(.slice none 0 0, [])⟩
    obtain ⟨f, hf⟩ := choose_lt hget
    refine ⟨_, (List.range len).map f, rfl, Or.inr ⟨a, cap, ?_, ?_, ?_, ?_⟩⟩
    · rw [List.length_map, List.length_range]
    · rw [List.length_map, List.length_range]
      exact hl
    · omega
    · intro i x hx
      rw [List.getElem?_map] at hx
      rcases Nat.lt_or_ge i len with hi | hi
      · rw [List.getElem?_range hi] at hx
        simp only [Option.map_some, Option.some.injEq] at hx
        subst hx
        exact hf i hi
      · rw [List.getElem?_eq_none (by simpa using hi)] at hx
        cases hx
end
end Go.Proofs.YtkomikpfnogjcaaDoor

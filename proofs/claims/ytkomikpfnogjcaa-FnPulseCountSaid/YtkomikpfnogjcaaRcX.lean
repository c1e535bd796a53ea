/- Which tables the laws take. -/
import Derived.Test.YtkomikpfnogjcaaRcW
import Derived.Deep.Slices
namespace Go.Proofs.Ytkomikpfnogjcaa
open Go Go.Vc
set_option maxRecDepth 100000
set_option maxHeartbeats 4000000

/-- Sums that never fall. -/
def rising (rest : List Nat) (i : Nat) : Prop := ∀ j, j + 1 < i → rest.getD j 0 ≤ rest.getD (j + 1) 0
/-- What 'tabled' lets in. -/
structure TabFine (rows : List Nat) (total : Nat) (rest : List Nat) : Prop where
  cons : rows = total :: rest
  ok : TabOk total rest
  t2 : 2 ≤ total
  t256 : total ≤ 256
  len : rest.length ≤ 63
  rise : rising rest rest.length
  last : tabLow rest rest.length = total

theorem tabFine_of {total : Nat} {rest : List Nat} (h1 : 1 ≤ rest.length) (h2 : rest.length ≤ 63) (t2 : 2 ≤ total) (t256 : total ≤ 256) (hr : rising rest rest.length) (hl : tabLow rest rest.length = total) : TabFine (total :: rest) total rest := by
  have hl' : rest.getD (rest.length - 1) 0 = total := by
    unfold tabLow at hl
    rw [if_neg (by omega)] at hl
    exact hl
  have up : ∀ k j, j + k < rest.length → rest.getD j 0 ≤ rest.getD (j + k) 0 := by
    intro k
    induction k with
    | zero => intro j _; exact Nat.le_refl _
    | succ k ih =>
      intro j hj
      exact Nat.le_trans (ih j (by omega)) (hr (j + k) (by omega))
  refine ⟨rfl, ⟨by omega, by omega, ?_, ?_, by omega⟩, t2, t256, h2, hr, hl⟩
  · intro x hx
    obtain ⟨j, hj, rfl⟩ := List.getElem_of_mem hx
    have := up (rest.length - 1 - j) j (by omega)
    rw [show j + (rest.length - 1 - j) = rest.length - 1 by omega, hl'] at this
    rw [List.getD_eq_getElem?_getD, List.getElem?_eq_getElem hj] at this
    exact this
  · have hm : rest.length - 1 < rest.length := by omega
    rw [List.getD_eq_getElem?_getD, List.getElem?_eq_getElem hm] at hl'
    have : rest[rest.length - 1] = total := hl'
    rw [← this]
    exact List.getElem_mem hm

theorem tabledW (w0 : World) {o : OpV} (h : o.fits w0) : CallsA Try.prog w0 76 [.c (.val o.tab)] [] fun r H' => ∃ b : Bool, r = .o (.c (.val (.bool b))) ∧ H' = [] ∧ (b = true → ∃ total rest, TabFine o.rows total rest) := by
  obtain ⟨act, oa, ob, oc, ov, otab, rows⟩ := o
  have ht := h.tab
  simp only at ht
  refine callsA_of_ev c76_ ?_
  rcases ht with ⟨rfl, rfl⟩ | ⟨ta, c, rfl, hc1, hc2, hcell⟩
  · conv => whnf
    refine Or.inl ?_
    conv => whnf
    refine ⟨fun _ => ?_, fun h => absurd (lt_f h) (by omega)⟩
    conv => whnf
    exact Or.inl ⟨false, rfl, rfl, (fun h => by cases h)⟩
  · conv => whnf
    refine Or.inl ?_
    conv => whnf
    refine ⟨fun h1 => ?_, fun h1 => ?_⟩
    · conv => whnf
      exact Or.inl ⟨false, rfl, rfl, (fun h => by cases h)⟩
    · have h1 : 2 ≤ rows.length := lt_f h1
      obtain ⟨total, rest, rfl⟩ : ∃ t r, rows = t :: r := by
        cases rows with
        | nil => simp only [List.length_nil] at h1; omega
        | cons t r => exact ⟨t, r, rfl⟩
      simp only [List.length_cons] at h1 hc1
      obtain ⟨ht32, hct⟩ := hcell 0 total rfl
      have hrest : ∀ (i x : Nat), rest[i]? = some x → x < 4294967296 ∧ w0.cell? ((if c = 1 then ta else ta.add (1 * 1)).add i) = some (Value.int IntKind.u32 ↑x) := by
        intro i x hx
        rw [if_neg (by omega), Deep.add_add, Nat.add_comm]
        exact hcell (i + 1) x hx
      conv => whnf
      refine ⟨fun h2 => ?_, fun h2 => ?_⟩
      · conv => whnf
        exact Or.inl ⟨false, rfl, rfl, (fun h => by cases h)⟩
      · have h2 : (total :: rest).length ≤ 64 := gt_f h2
        simp only [List.length_cons] at h2
        conv => whnf
        refine ⟨by simp only [List.length_cons]; omega, ?_⟩
        conv => whnf
        refine ⟨_, hct, rfl, ?_⟩
        conv => whnf
        refine Or.inl ?_
        conv => whnf
        refine ⟨⟨by omega, by simp only [List.length_cons]; omega, by simp only [List.length_cons]; omega⟩, ?_⟩
        conv => whnf
        refine ⟨{i : Nat // i ≤ rest.length ∧ rising rest i}, fun ⟨i, _⟩ => ⟨[(3, .o (.c (.val (.int .u32 total)))), (4, .o (.c (.val (.int .u32 (tabLow rest i : Nat))))), (19, .o (.c (.val (.slice (some (if c = 1 then ta else ta.add (1 * 1))) rest.length (c - 1))))), (20, .o (.c (.val (.int .i64 rest.length)))), (21, .o (.c (.val (.int .i64 i))))], []⟩, fun i => rest.length - i.1, ⟨⟨0, by omega, (fun j hj => by omega)⟩, [], ⟨rfl, trivial, rfl⟩, rfl, rfl, rfl, rfl, rfl, trivial⟩, fun ⟨i, hi, hri⟩ => ?_⟩
        conv => whnf
        refine ⟨fun h3 => ?_, fun h3 => ?_⟩
        · have h3 : i < rest.length := lt_t h3
          obtain ⟨x, hx⟩ : ∃ x, rest[i]? = some x := ⟨_, List.getElem?_eq_getElem h3⟩
          obtain ⟨x32, x0⟩ := hrest i x hx
          have x0' : w0.cell? (((if c = 1 then ta else ta.add (1 * 1)).add (i * 1)).add 0) = some (Value.int IntKind.u32 ↑x) := by
            rw [Deep.add_add, show i * 1 + 0 = i by omega]
            exact x0
          conv => whnf
          refine Or.inl ?_
          conv => whnf
          refine ⟨by omega, ?_⟩
          conv => whnf
          refine ⟨_, x0', rfl, ?_⟩
          conv => whnf
          refine Or.inl ?_
          conv => whnf
          refine ⟨fun h4 => ?_, fun h4 => ?_⟩
          · conv => whnf
            exact Or.inl ⟨false, rfl, rfl, (fun h => by cases h)⟩
          · have h4 : tabLow rest i ≤ x := lt_f h4
            have hx' : rest.getD i 0 = x := by rw [List.getD_eq_getElem?_getD, hx]; rfl
            have ri : rising rest (i + 1) := by
              intro j hj
              rcases Nat.lt_or_ge (j + 1) i with h | h
              · exact hri j h
              · obtain rfl : i = j + 1 := by omega
                unfold tabLow at h4
                rw [if_neg (by omega)] at h4
                rw [hx']
                exact h4
            conv => whnf
            refine ⟨⟨i + 1, by omega, ri⟩, ⟨[], ⟨rfl, trivial, rfl⟩, rfl, eq_u32 ?_, rfl, rfl, eq_i64 ?_, trivial⟩, ?_⟩
            · show (x : Int) = (tabLow rest (i + 1) : Nat)
              unfold tabLow
              rw [if_neg (by omega), Nat.add_sub_cancel, hx']
            · rw [nadd, nwrapi (by omega)]
            · show rest.length - (i + 1) < rest.length - i
              omega
        · have h3 : rest.length ≤ i := lt_f h3
          obtain rfl : i = rest.length := by omega
          conv => whnf
          refine ⟨fun h4 => ?_, fun h4 => ?_⟩
          · have h4 : 2 ≤ total := ge_t h4
            conv => whnf
            refine ⟨fun h5 => ?_, fun h5 => ?_⟩
            · have h5 : total ≤ 256 := le_t h5
              conv => whnf
              refine ⟨fun h6 => ?_, fun h6 => ?_⟩
              · conv => whnf
                exact Or.inl ⟨_, rfl, rfl, fun h7 => ⟨total, rest, tabFine_of (by omega) (by omega) h4 h5 hri (beq_t h7)⟩⟩
              · conv => whnf
                exact Or.inl ⟨false, rfl, rfl, (fun h => by cases h)⟩
            · conv => whnf
              exact Or.inl ⟨false, rfl, rfl, (fun h => by cases h)⟩
          · conv => whnf
            exact Or.inl ⟨false, rfl, rfl, (fun h => by cases h)⟩
end Go.Proofs.Ytkomikpfnogjcaa

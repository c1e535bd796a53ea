/- Vectors that are written to a frame, one behind the other, are read from it as they were. -/
import Derived.Test.YtkomikpfnogjcaaDoorRows
import Derived.Test.YtkomikpfnogjcaaDoorCards
import Derived.Test.YtkomikpfnogjcaaDoorTie
import Derived.Test.YtkomikpfnogjcaaDoorRwLaid
import Derived.Test.YtkomikpfnogjcaaDoorRwLaid2
import Derived.WalkKit
import Derived.ProofKit
import Derived.OpenShut
import Derived.ChangeOld
import Derived.Below
import Derived.SizedLaws
import Derived.SevenTiedAt
namespace Go.Proofs.YtkomikpfnogjcaaDoor.fnPulsesThrough
open Go Go.Vc
open Go.ChangeShapes Go.WideShapes Go.ChangeAt Go.RowKit
set_option linter.unusedVariables false

theorem one_intss {W : World} {v : Value} {ys : List (Value × List Int)} (hv : intssAt W v ys) : v.oneCell' = true := by
  rcases hv with ⟨rfl, _⟩ | ⟨a, c, rfl, _⟩ <;> rfl
theorem walk (W : World) (hp : pows W) {v : Value} {ys : List (Value × List Int)} (hv : intssAt W v ys) :
    Calls Tryd.prog 5 #[v] W fun e W' => e = .returned (.bool true) ∧ Below W.heap.size W W' := by
  have h := (lPulsesThroughW W hp hv).out [] W [v] ⟨rfl, (fun b k e h => by cases h), (fun b b' k k' g h => by cases h), (fun g h => by obtain ⟨b, k, h, _⟩ := h; cases h), Below.refl _ _⟩
    (.cons ⟨rfl, one_intss hv⟩ .nil)
  refine h.mono ?_
  rintro e W' ⟨r, H', ρ', x, rfl, rfl, hx, hr, _, _, _⟩
  have : x = .bool true := hx.1
  subst this
  exact ⟨rfl, hr.base⟩
set_option maxRecDepth 100000 in
theorem lifted (os : Os) (started : os.Started) (H : Type) (enc : TypeId × Value → H) :
    ReturnsInHanded {} Tryd.checked os 5 .any (fun w args => (Rows.fnPulsesThroughSpec.pre enc Tryd.prog Tryd.f5 [] false w args ∧ laidMetH Tryd.prog laid3 w) ∧ sizedMet enc Tryd.prog Tryd.f5 (OpenSpec.ofChange Rows.fnPulsesThroughSpec) false w args)
      (Rows.fnPulsesThroughSpec.post enc Tryd.prog Tryd.f5 false true false false) := by
  refine returnsInHanded_of_change_and (C := Tryd.checked) (X := fun w _ => laidMetH Tryd.prog laid3 w) (fun _ _ _ hh h => h.of_heap hh) own started (by kernel_rfl) Tryd.func5
    (ChangeSpec.witness_shaped (enc := enc) (C := Tryd.checked) (os := os) (X := fun w _ => laidMetH Tryd.prog laid3 w) false (World.doorLaid Tryd.prog 400 os) #[.slice none 0 0] 8 rfl (World.shaped_of_RefB (by kernel_rfl) (by kernel_rfl)) (by kernel_rfl) (by kernel_rfl) (by kernel_rfl) (door_met os _)) ?_
  intro W base args ds gs before hval0 hW _ _ hL _
  have hval : ∀ (j : Nat) t v, Tryd.f5.params[j]? = some t → args[j]? = some v → Value.okWide Tryd.prog W .any base t v := hval0
  have hW' := hW
  obtain ⟨p, q, hA0, hV, rfl, hfz, hnd⟩ := hW
  have hA : DataW.TrodAll enc Tryd.prog W 0 (fun _ => true) true Tryd.f5.params.toList args.toList ds p := hA0
  rw [Tryd.params5] at hA hval
  obtain ⟨v1, vs1, d1, ds1, p1, q1, hargs, rfl, rfl, h1, r1⟩ := trodAll_cons hA
  obtain ⟨rfl, rfl, rfl⟩ := trodAll_nil r1
  obtain rfl : args = #[v1] := by cases args; simp_all
  obtain ⟨rfl, rfl⟩ := trodVars_none hV
  obtain ⟨a1, len1, cap1, rfl⟩ := okWide_slice Tryd.underlying33 (hval 0 33 v1 rfl rfl)
  have k1 := h1
  have lt1 : ∀ x ∈ p1, x.block < W.heap.size := by obtain ⟨m, hm⟩ := k1; exact DataW.trod_lt m _ _ _ hm
  obtain ⟨ys, w1⟩ : ∃ ys, intssAt W (.slice a1 len1 cap1) ys := by
    obtain ⟨fuel, hf⟩ := h1
    obtain ⟨v, ys, hcs, hl⟩ := opened_intss hf
    obtain rfl : Value.slice a1 len1 cap1 = v := by simpa [Value.cells] using hcs
    exact ⟨ys, hl⟩
  have hpw := pows_of_laid hL
  clear hA0 hval0
  refine (walk W hpw w1).mono fun e W' ⟨he, bel⟩ => ?_
  subst he
  exact ⟨_, rfl, _, _, _, [], _, [], hW', trodAll_mk1 (shut_bool Tryd.underlying4 _), (trodAll_cons_mk (Below.trod laidOut (by kernel_rfl) (of_decide_eq_true (by kernel_rfl)) k1 bel lt1) trodAll_mk0), rfl, bel.frame _, fun h => by cases h⟩
theorem said : Rows.FnPulsesThroughSaid :=
  OpenClaim.holds_of_wide 5 Tryd.f5 rfl rfl rfl rfl rfl rfl rfl ⟨rfl, rfl, rfl, rfl, rfl⟩ rfl rfl rfl rfl rfl (by kernel_rfl) Tryd.func5 (by kernel_rfl)
    (of_decide_eq_true (by kernel_rfl)) (by unfold Func.isWrapper; first | (rw [if_pos (by decide +kernel)]; kernel_rfl) | (rw [if_neg (by decide +kernel)]; exact ⟨rfl, rfl⟩))
    (fun os started H enc _ => lifted os started H enc)
theorem proved : Rows.FnPulsesThroughCardSaid :=
  Claim7.holds_tied_plain_at .later [] [.data, .data, .data] true (true, "1fc2bc157427772c206fd0f601b9df9ca99e2f1eefb0c43dfe6aec29042c3cb0") false
    said (fun _ h => by cases h) (by kernel_rfl) (fun _ h => by cases h) fnPulsesThrough_row_tie rfl ⟨rfl, rfl⟩ (by kernel_rfl) rfl
    (fun f fn hf hfn => by
      obtain rfl : f = 5 := Option.some.inj ((show Tryd.prog.funcNamed "pub-carronade/laws.FnPulsesThrough" = some 5 by kernel_rfl).symm.trans hf) |>.symm
      obtain rfl : fn = Tryd.f5 := (Option.some.inj (Tryd.func5.symm.trans hfn)).symm
      exact ⟨by kernel_rfl, fun j t ht => by
        rw [Tryd.params5] at ht
        have hm : t ∈ [33] := by simpa using Array.mem_of_getElem? ht
        have hall : ([33].all fun u => !Tryd.prog.wantsStandIn u) = true := by kernel_rfl
        exact (show Tryd.prog.wantsStandIn t = false by simpa using List.all_eq_true.1 hall t hm)⟩)
    (by kernel_rfl)
end Go.Proofs.YtkomikpfnogjcaaDoor.fnPulsesThrough
namespace Go.Proofs.YtkomikpfnogjcaaDoor
/-- The statement, under a short name. -/
theorem pulses_through_holds : Rows.FnPulsesThroughCardSaid := fnPulsesThrough.proved
#print axioms pulses_through_holds
end Go.Proofs.YtkomikpfnogjcaaDoor

/- Any bytes, alone on a stream's first page, are read as its head or refused. Over what the listed variables hold (a tied card; the library's tables pinned). -/
import Derived.Test.YtokkphocaloelaaGreatDoorRows
import Derived.Test.YtokkphocaloelaaGreatDoorCards
import Derived.Test.YtokkphocaloelaaGreatDoorTie
import Derived.WalkKit
import Derived.ProofKit
import Derived.OpenShut
import Derived.ShutString
import Derived.ChangeOld
import Derived.Below
import Derived.SevenTiedAt
import Derived.Deep.DeepHandedRow
import Derived.Test.YtokkphocaloelaaGreatDoorHF
namespace Go.Proofs.YtokkphocaloelaaGreatDoor.fnHeadAny
open Go Go.Vc
open Go.ChangeShapes Go.WideShapes Go.ChangeAt Go.RowKit
open Go.ChangeMaps (open_string shut_string)
set_option linter.unusedVariables false

theorem walk (W : World) (hp : pows W) {ev : Nat → Value} (he : Errs W 227 ev) (hT : PT.at W) (hU : UtT W fstF accA) (b : ByteArray) :
    Calls Tryz.prog 7 #[.string b] W fun e W' => e = .returned (.bool true) ∧ Below W.heap.size W W' := by
  have h := (lHeadAnyW (w0 := W) he hp hT hU b).out [] W [.string b] ⟨rfl, (fun b k e h => by cases h), (fun b b' k k' g h => by cases h), (fun g h => by obtain ⟨b, k, h, _⟩ := h; cases h), Below.refl _ _⟩
    (.cons ⟨rfl, rfl⟩ .nil)
  refine h.mono ?_
  rintro e W' ⟨r, H', ρ', x, ⟨rfl, rfl⟩, rfl, hx, hr, _, _, _⟩
  have : x = .bool true := hx.1
  subst this
  exact ⟨rfl, hr.base⟩
theorem reads (os : Os) {H : Type} (enc : TypeId × Value → H) : ∃ places, DataW.whole enc Tryz.prog ((World.laidAll Tryz.prog os laidHd).forCall (fun _ _ => 0) ⟨#[], #[.string (ByteArray.mk #[])], []⟩).memory Tryz.f7.params.toList (OpenSpec.ofChange Rows.fnHeadAnySpec).vars false (#[.string (ByteArray.mk #[])] : Array Value).toList 8 = some ([.lit (.string [])], [], places) :=
  ⟨[], by kernel_rfl⟩
set_option maxRecDepth 100000 in
theorem lifted (os : Os) (started : os.Started) (H : Type) (enc : TypeId × Value → H) (F : Stop.Interp) :
    ReturnsInHanded {} Tryz.checked os 7 .any ((OpenSpec.ofChange Rows.fnHeadAnySpec).preRow enc Tryz.prog Tryz.f7 Rows.fnHeadAnyRow.domain false Rows.fnHeadAnyRow.laid) (((OpenSpec.ofChange Rows.fnHeadAnySpec).at F).post enc Tryz.prog Tryz.f7 false true false false) := by
  obtain ⟨places, hx⟩ := reads os enc
  have hok : Input.okWideB Tryz.prog ((World.laidAll Tryz.prog os laidHd).forCall (fun _ _ => 0) ⟨#[], #[.string (ByteArray.mk #[])], []⟩) 7 ⟨#[], #[.string (ByteArray.mk #[])], []⟩ = true := by kernel_rfl
  refine returnsInHanded_of_row (C := Tryz.checked) (s := OpenSpec.ofChange Rows.fnHeadAnySpec) own started (by kernel_rfl) Tryz.func7
    ⟨World.laidAll Tryz.prog os laidHd, fun _ _ => 0, ⟨#[], #[.string (ByteArray.mk #[])], []⟩, World.laidAll_os _ _ _, World.shaped_of_ZipB (by kernel_rfl) (by kernel_rfl), (Input.okWide_of_okWideB (base := 0) hok).1, (Input.okWide_of_okWideB hok).2,
      OpenSpec.preRow_of_cond 8 hx (by kernel_rfl) (fun k hk => by cases hk) (by kernel_rfl) (doorHd os _), by
        simp only [Assume.holds]
        exact ⟨by simp, by simp, by simp, by simp, by simp⟩⟩ ?_
  intro W base args ds gs before hval0 hW _ _ _ hL _ _
  have hval : ∀ (j : Nat) t v, Tryz.f7.params[j]? = some t → args[j]? = some v → Value.okWide Tryz.prog W .any base t v := hval0
  have hW' := hW
  obtain ⟨p, q, hA0, hV, rfl, hfz, hnd⟩ := hW
  have hA : DataW.TrodAll enc Tryz.prog W 0 (fun _ => true) true Tryz.f7.params.toList args.toList ds p := hA0
  rw [Tryz.params7] at hA hval
  obtain ⟨v1, vs1, d1, ds1, p1, q1, hargs, rfl, rfl, h1, r1⟩ := trodAll_cons hA
  obtain ⟨rfl, rfl, rfl⟩ := trodAll_nil r1
  obtain rfl : args = #[v1] := by cases args; simp_all
  obtain ⟨rfl, rfl⟩ := trodVars_none hV
  obtain ⟨hpw, ⟨ev, he⟩, hT, hU⟩ := metHd hL
  obtain ⟨b, rfl, rfl, rfl, hbz⟩ := open_string Tryz.underlying9 (hval 0 9 v1 rfl rfl) h1
  clear hA0 hval0
  refine (walk W hpw he hT hU b).mono fun e W' ⟨he, bel⟩ => ?_
  subst he
  exact ⟨_, rfl, _, _, _, [], _, [], hW', trodAll_mk1 (shut_bool Tryz.underlying4 _), (trodAll_cons_mk (shut_string Tryz.underlying9 hbz) trodAll_mk0), rfl, bel.frame _, fun h => by cases h⟩
theorem said : Rows.FnHeadAnySaid :=
  OpenClaim.holds_of_cond 7 Tryz.f7 rfl rfl rfl rfl rfl rfl rfl ⟨rfl, rfl, rfl, rfl, rfl⟩ rfl rfl rfl rfl rfl (by kernel_rfl) Tryz.func7 (by kernel_rfl)
    (of_decide_eq_true (by kernel_rfl)) (by unfold Func.isWrapper; first | (rw [if_pos (by decide +kernel)]; kernel_rfl) | (rw [if_neg (by decide +kernel)]; exact ⟨rfl, rfl⟩))
    (fun os started H enc _ F => by rw [OpenClaim.pre_eq_preRow]; exact lifted os started H enc F)
theorem plain (f : FuncId) (fn : Func) (hf : Tryz.pinned.checked.prog.funcNamed "pub-carronade/laws.FnHeadAny" = some f) (hfn : Tryz.pinned.checked.prog.funcs[f]? = some fn) :
    true = Tryz.pinned.checked.prog.looks [] ∧ ∀ (j : Nat) t, fn.params[j]? = some t → Tryz.pinned.checked.prog.wantsStandIn t = false := by
  obtain rfl : f = 7 := Option.some.inj ((show Tryz.prog.funcNamed "pub-carronade/laws.FnHeadAny" = some 7 by kernel_rfl).symm.trans hf) |>.symm
  obtain rfl : fn = Tryz.f7 := (Option.some.inj (Tryz.func7.symm.trans hfn)).symm
  refine ⟨by kernel_rfl, fun j t ht => ?_⟩
  rw [Tryz.params7] at ht
  have hm : t ∈ [9] := by simpa using Array.mem_of_getElem? ht
  have hall : ([9].all fun u => !Tryz.prog.wantsStandIn u) = true := by kernel_rfl
  exact (show Tryz.prog.wantsStandIn t = false by simpa using List.all_eq_true.1 hall t hm)
theorem proved : Rows.FnHeadAnyCardSaid :=
  Claim7.holds_tied_plain_at .later [] _ _ _ _ said (fun _ h => by cases h) (by kernel_rfl) (fun _ h => by cases h) fnHeadAny_row_tie rfl ⟨rfl, rfl⟩ (by kernel_rfl) rfl plain (by kernel_rfl)
end Go.Proofs.YtokkphocaloelaaGreatDoor.fnHeadAny
namespace Go.Proofs.YtokkphocaloelaaGreatDoor
/-- The statement, under a short name. -/
theorem head_any_holds : Rows.FnHeadAnyCardSaid := fnHeadAny.proved
#print axioms head_any_holds
end Go.Proofs.YtokkphocaloelaaGreatDoor

/- A packet's frames, its configuration and its channels are the ones that the rules of RFC 6716 (chapter 3) give, whatever bytes it is. -/
import Derived.Test.YtknfakehijoogaaDoorRows
import Derived.Test.YtknfakehijoogaaDoorCards
import Derived.Test.YtknfakehijoogaaDoorTie
import Derived.Test.YtknfakehijoogaaDoorRwLaid
import Derived.Test.YtknfakehijoogaaDoorPkK
import Derived.WalkKit
import Derived.ProofKit
import Derived.OpenShut
import Derived.ShutString
import Derived.ChangeOld
import Derived.Below
import Derived.SizedLaws
import Derived.SevenTiedAt
namespace Go.Proofs.YtknfakehijoogaaDoor.fnPacketAny
open Go Go.Vc
open Go.ChangeShapes Go.WideShapes Go.ChangeAt Go.RowKit
open Go.ChangeMaps (open_string shut_string)
set_option linter.unusedVariables false

theorem walk (b : ByteArray) (W : World) (h0 : errAt W 0) (h1 : errAt W 1) :
    Calls Tryd.prog 3 #[.string b] W fun e W' => e = .returned (.bool true) ∧ Below W.heap.size W W' := by
  have h := (packetAnyW W h0 h1 (b := b)).out [] W [.string b] ⟨rfl, (fun b k e h => by cases h), (fun b b' k k' g h => by cases h), (fun g h => by obtain ⟨b, k, h, _⟩ := h; cases h), Below.refl _ _⟩
    (.cons ⟨rfl, rfl⟩ .nil)
  refine h.mono ?_
  rintro e W' ⟨r, H', ρ', x, ⟨rfl, rfl⟩, rfl, hx, hr, _, _, _⟩
  have : x = .bool true := hx.1
  subst this
  exact ⟨rfl, hr.base⟩

set_option maxRecDepth 100000 in
theorem lifted (os : Os) (started : os.Started) (H : Type) (enc : TypeId × Value → H) :
    ReturnsInHanded {} Tryd.checked os 3 .any (fun w args => (Rows.fnPacketAnySpec.pre enc Tryd.prog Tryd.f3 [] false w args ∧ laidMetH Tryd.prog laid3 w) ∧ sizedMet enc Tryd.prog Tryd.f3 (OpenSpec.ofChange Rows.fnPacketAnySpec) false w args)
      (Rows.fnPacketAnySpec.post enc Tryd.prog Tryd.f3 false true false false) := by
  refine returnsInHanded_of_change_and (C := Tryd.checked) (X := fun w _ => laidMetH Tryd.prog laid3 w) (fun _ _ _ hh h => h.of_heap hh) own started (by kernel_rfl) Tryd.func3
    (ChangeSpec.witness_shaped (enc := enc) (C := Tryd.checked) (os := os) (X := fun w _ => laidMetH Tryd.prog laid3 w) false (World.doorLaid Tryd.prog 400 os) #[.string ⟨#[]⟩] 8 rfl (World.shaped_of_RefB (by kernel_rfl) (by kernel_rfl)) (by kernel_rfl) (by kernel_rfl) (by kernel_rfl) (door_met os _)) ?_
  intro W base args ds gs before hval0 hW _ _ hL _
  have hval : ∀ (j : Nat) t v, Tryd.f3.params[j]? = some t → args[j]? = some v → Value.okWide Tryd.prog W .any base t v := hval0
  have hW' := hW
  obtain ⟨p, q, hA0, hV, rfl, hfz, hnd⟩ := hW
  have hA : DataW.TrodAll enc Tryd.prog W 0 (fun _ => true) true Tryd.f3.params.toList args.toList ds p := hA0
  rw [Tryd.params3] at hA hval
  obtain ⟨v0, d0, rfl, rfl, h0⟩ := trodAll_one hA
  obtain ⟨rfl, rfl⟩ := trodVars_none hV
  obtain ⟨s, rfl, rfl, rfl, ws⟩ := open_string Tryd.underlying9 (hval 0 9 v0 rfl rfl) h0
  obtain ⟨e0, e1⟩ := errs_of_laid hL
  clear hA0 hval0
  refine (walk s W e0 e1).mono fun e W' ⟨he, bel⟩ => ?_
  subst he
  exact ⟨_, rfl, _, _, _, [], _, [], hW', trodAll_mk1 (shut_bool Tryd.underlying4 _), (trodAll_mk1 (shut_string Tryd.underlying9 ws)), rfl, bel.frame _, fun h => by cases h⟩
theorem said : Rows.FnPacketAnySaid :=
  OpenClaim.holds_of_wide 3 Tryd.f3 rfl rfl rfl rfl rfl rfl rfl ⟨rfl, rfl, rfl, rfl, rfl⟩ rfl rfl rfl rfl rfl (by kernel_rfl) Tryd.func3 (by kernel_rfl)
    (of_decide_eq_true (by kernel_rfl)) (by unfold Func.isWrapper; first | (rw [if_pos (by decide +kernel)]; kernel_rfl) | (rw [if_neg (by decide +kernel)]; exact ⟨rfl, rfl⟩))
    (fun os started H enc _ => lifted os started H enc)
theorem proved : Rows.FnPacketAnyCardSaid :=
  Claim7.holds_tied_plain_at .later [] [.sentinel, .sentinel, .sentinel] true (true, "c54b90c47f41801e1c591dfcae4aa49e18f099bbd23bf7f9248210434ed18560") false
    said (fun _ h => by cases h) (by kernel_rfl) (fun _ h => by cases h) fnPacketAny_row_tie rfl ⟨rfl, rfl⟩ (by kernel_rfl) rfl
    (fun f fn hf hfn => by
      obtain rfl : f = 3 := Option.some.inj ((show Tryd.prog.funcNamed "pub-carronade/laws.FnPacketAny" = some 3 by kernel_rfl).symm.trans hf) |>.symm
      obtain rfl : fn = Tryd.f3 := (Option.some.inj (Tryd.func3.symm.trans hfn)).symm
      exact ⟨by kernel_rfl, fun j t ht => by
        rw [Tryd.params3] at ht
        have hm : t ∈ [9] := by simpa using Array.mem_of_getElem? ht
        have hall : ([9].all fun u => !Tryd.prog.wantsStandIn u) = true := by kernel_rfl
        exact (show Tryd.prog.wantsStandIn t = false by simpa using List.all_eq_true.1 hall t hm)⟩)
    (by kernel_rfl)
end Go.Proofs.YtknfakehijoogaaDoor.fnPacketAny
namespace Go.Proofs.YtknfakehijoogaaDoor
/-- The statement, under a short name. -/
theorem packet_any_holds : Rows.FnPacketAnyCardSaid := fnPacketAny.proved
#print axioms packet_any_holds
end Go.Proofs.YtknfakehijoogaaDoor

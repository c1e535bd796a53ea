/- A number below their count names the vector that RFC 6716 says, and the vector this number. -/
import Derived.Test.YtkomikpfnogjcaaDoorRows
import Derived.Test.YtkomikpfnogjcaaDoorCards
import Derived.Test.YtkomikpfnogjcaaDoorTie
import Derived.Test.YtkomikpfnogjcaaDoorRwLaid
import Derived.Test.YtkomikpfnogjcaaDoorPuP
import Derived.WalkKit
import Derived.ProofKit
import Derived.OpenShut
import Derived.ChangeOld
import Derived.Below
import Derived.SizedLaws
import Derived.SevenTiedAt
namespace Go.Proofs.YtkomikpfnogjcaaDoor.fnPulseVector
open Go Go.Vc
open Go.ChangeShapes Go.WideShapes Go.ChangeAt Go.RowKit
set_option linter.unusedVariables false

theorem walk (W : World) (hp : pows W) (n k i : Nat) (hn : n < 256) (hk : k < 256) (hi : i < 4294967296) :
    Calls Tryd.prog 4 #[.int .u8 n, .int .u8 k, .int .u32 i] W fun e W' => e = .returned (.bool true) ∧ Below W.heap.size W W' := by
  have h := (lPulseVectorW W hp hn hk hi).out [] W [.int .u8 n, .int .u8 k, .int .u32 i] ⟨rfl, (fun b k e h => by cases h), (fun b b' k k' g h => by cases h), (fun g h => by obtain ⟨b, k, h, _⟩ := h; cases h), Below.refl _ _⟩
    (.cons ⟨rfl, rfl⟩ (.cons ⟨rfl, rfl⟩ (.cons ⟨rfl, rfl⟩ .nil)))
  refine h.mono ?_
  rintro e W' ⟨r, H', ρ', x, rfl, rfl, hx, hr, _, _, _⟩
  have : x = .bool true := hx.1
  subst this
  exact ⟨rfl, hr.base⟩
theorem u8_of {a : Int} (w : (Lit.int .u8 a).wf = true) : ∃ n : Nat, a = n ∧ n < 256 := by
  simp only [Lit.wf, Bool.and_eq_true, decide_eq_true_eq] at w
  have g1 : 0 ≤ a := w.1
  have g2 : a ≤ 255 := w.2
  exact ⟨a.toNat, by omega, by omega⟩
theorem u32_wf {a : Int} (w : (Lit.int .u32 a).wf = true) : ∃ n : Nat, a = n ∧ n < 4294967296 := by
  simp only [Lit.wf, Bool.and_eq_true, decide_eq_true_eq] at w
  have g1 : 0 ≤ a := w.1
  have g2 : a ≤ 4294967295 := w.2
  exact ⟨a.toNat, by omega, by omega⟩
set_option maxRecDepth 100000 in
theorem lifted (os : Os) (started : os.Started) (H : Type) (enc : TypeId × Value → H) :
    ReturnsInHanded {} Tryd.checked os 4 .any (fun w args => (Rows.fnPulseVectorSpec.pre enc Tryd.prog Tryd.f4 [] false w args ∧ laidMetH Tryd.prog laid3 w) ∧ sizedMet enc Tryd.prog Tryd.f4 (OpenSpec.ofChange Rows.fnPulseVectorSpec) false w args)
      (Rows.fnPulseVectorSpec.post enc Tryd.prog Tryd.f4 false true false false) := by
  refine returnsInHanded_of_change_and (C := Tryd.checked) (X := fun w _ => laidMetH Tryd.prog laid3 w) (fun _ _ _ hh h => h.of_heap hh) own started (by kernel_rfl) Tryd.func4
    (ChangeSpec.witness_shaped (enc := enc) (C := Tryd.checked) (os := os) (X := fun w _ => laidMetH Tryd.prog laid3 w) false (World.doorLaid Tryd.prog 400 os) #[.int .u8 0, .int .u8 0, .int .u32 0] 8 rfl (World.shaped_of_RefB (by kernel_rfl) (by kernel_rfl)) (by kernel_rfl) (by kernel_rfl) (by kernel_rfl) (door_met os _)) ?_
  intro W base args ds gs before hval0 hW _ _ hL _
  have hval : ∀ (j : Nat) t v, Tryd.f4.params[j]? = some t → args[j]? = some v → Value.okWide Tryd.prog W .any base t v := hval0
  have hW' := hW
  obtain ⟨p, q, hA0, hV, rfl, hfz, hnd⟩ := hW
  have hA : DataW.TrodAll enc Tryd.prog W 0 (fun _ => true) true Tryd.f4.params.toList args.toList ds p := hA0
  rw [Tryd.params4] at hA hval
  obtain ⟨v0, vs0, d0, ds0, p0, q0, hargs, rfl, rfl, h0, r0⟩ := trodAll_cons hA
  obtain ⟨v1, vs1, d1, ds1, p1, q1, rfl, rfl, rfl, h1, r1⟩ := trodAll_cons r0
  obtain ⟨v2, vs2, d2, ds2, p2, q2, rfl, rfl, rfl, h2, r2⟩ := trodAll_cons r1
  obtain ⟨rfl, rfl, rfl⟩ := trodAll_nil r2
  obtain rfl : args = #[v0, v1, v2] := by cases args; simp_all
  obtain ⟨rfl, rfl⟩ := trodVars_none hV
  obtain ⟨a0, rfl, rfl, rfl, w0⟩ := open_int Tryd.underlying5 (hval 0 5 v0 rfl rfl) h0
  obtain ⟨a1, rfl, rfl, rfl, w1⟩ := open_int Tryd.underlying5 (hval 1 5 v1 rfl rfl) h1
  obtain ⟨a2, rfl, rfl, rfl, w2⟩ := open_int Tryd.underlying23 (hval 2 23 v2 rfl rfl) h2
  obtain ⟨n, rfl, hn⟩ := u8_of w0
  obtain ⟨k, rfl, hk⟩ := u8_of w1
  obtain ⟨i, rfl, hi⟩ := u32_wf w2
  have hpw := pows_of_laid hL
  clear hA0 hval0
  refine (walk W hpw n k i hn hk hi).mono fun e W' ⟨he, bel⟩ => ?_
  subst he
  exact ⟨_, rfl, _, _, _, [], _, [], hW', trodAll_mk1 (shut_bool Tryd.underlying4 _), (trodAll_cons_mk (shut_int Tryd.underlying5 w0) (trodAll_cons_mk (shut_int Tryd.underlying5 w1) (trodAll_cons_mk (shut_int Tryd.underlying23 w2) trodAll_mk0))), rfl, bel.frame _, fun h => by cases h⟩
theorem said : Rows.FnPulseVectorSaid :=
  OpenClaim.holds_of_wide 4 Tryd.f4 rfl rfl rfl rfl rfl rfl rfl ⟨rfl, rfl, rfl, rfl, rfl⟩ rfl rfl rfl rfl rfl (by kernel_rfl) Tryd.func4 (by kernel_rfl)
    (of_decide_eq_true (by kernel_rfl)) (by unfold Func.isWrapper; first | (rw [if_pos (by decide +kernel)]; kernel_rfl) | (rw [if_neg (by decide +kernel)]; exact ⟨rfl, rfl⟩))
    (fun os started H enc _ => lifted os started H enc)
theorem proved : Rows.FnPulseVectorCardSaid :=
  Claim7.holds_tied_plain_at .later [] [.data, .data, .data] true (true, "1fc2bc157427772c206fd0f601b9df9ca99e2f1eefb0c43dfe6aec29042c3cb0") false
    said (fun _ h => by cases h) (by kernel_rfl) (fun _ h => by cases h) fnPulseVector_row_tie rfl ⟨rfl, rfl⟩ (by kernel_rfl) rfl
    (fun f fn hf hfn => by
      obtain rfl : f = 4 := Option.some.inj ((show Tryd.prog.funcNamed "pub-carronade/laws.FnPulseVector" = some 4 by kernel_rfl).symm.trans hf) |>.symm
      obtain rfl : fn = Tryd.f4 := (Option.some.inj (Tryd.func4.symm.trans hfn)).symm
      exact ⟨by kernel_rfl, fun j t ht => by
        rw [Tryd.params4] at ht
        have hm : t ∈ [5, 5, 23] := by simpa using Array.mem_of_getElem? ht
        have hall : ([5, 5, 23].all fun u => !Tryd.prog.wantsStandIn u) = true := by kernel_rfl
        exact (show Tryd.prog.wantsStandIn t = false by simpa using List.all_eq_true.1 hall t hm)⟩)
    (by kernel_rfl)
end Go.Proofs.YtkomikpfnogjcaaDoor.fnPulseVector
namespace Go.Proofs.YtkomikpfnogjcaaDoor
/-- The statement, under a short name. -/
theorem pulse_vector_holds : Rows.FnPulseVectorCardSaid := fnPulseVector.proved
#print axioms pulse_vector_holds
end Go.Proofs.YtkomikpfnogjcaaDoor

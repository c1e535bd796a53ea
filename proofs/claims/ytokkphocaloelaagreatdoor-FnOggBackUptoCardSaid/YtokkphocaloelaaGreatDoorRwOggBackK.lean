/- FnOggBack: packets put on pages are read from them as they were. The statement is the one of bounded bulk (Upto), over what the listed variables hold (a tied card). -/
import Derived.Test.YtokkphocaloelaaGreatDoorRows
import Derived.Test.YtokkphocaloelaaGreatDoorCards
import Derived.Test.YtokkphocaloelaaGreatDoorTie
import Derived.WalkKit
import Derived.ProofKit
import Derived.OpenShut
import Derived.ChangeOld
import Derived.Below
import Derived.SevenTiedAt
import Derived.Deep.DeepHandedRow
import Derived.Test.YtokkphocaloelaaGreatDoorBF
namespace Go.Proofs.YtokkphocaloelaaGreatDoor.fnOggBack
open Go Go.Vc
open Go.ChangeShapes Go.WideShapes Go.ChangeAt Go.RowKit
set_option linter.unusedVariables false

def headV (hd : Hd) (ma : Option Addr) (mn mc : Nat) : Array Value := #[.int .i64 hd.ver, .int .i64 hd.ch, .int .i64 hd.map, .int .i64 hd.skip, .int .i64 hd.gain, .int .u32 hd.rate, .int .i64 hd.str, .int .i64 hd.cou, .string hd.mapping, .slice ma mn mc]
theorem one_pages {W : World} {v : Value} {xs : List (Pg × Value)} (hv : pgsAt W v xs) : v.oneCell' = true := by
  rcases hv with ⟨rfl, _⟩ | ⟨a, c, rfl, _⟩ <;> rfl
theorem walk (W : World) (hp : pows W) {ev : Nat → Value} (he : Errs W 227 ev) (hd : Hd) (ma : Option Addr) (mn mc : Nat) (hr : hd.rate < 4294967296) (hi : ∀ x ∈ [hd.ver, hd.ch, hd.map, hd.skip, hd.gain, hd.str, hd.cou], -9223372036854775808 ≤ x ∧ x < 9223372036854775808)
    {v : Value} {xs : List (Pg × Value)} (hv : pgsAt W v xs) (hw : wtx xs ≤ 1073741824) :
    Calls Tryz.prog 3 #[.agg (headV hd ma mn mc), v] W fun e W' => e = .returned (.bool true) ∧ Below W.heap.size W W' := by
  have h := (lBackW (w0 := W) he hp hd hr hi (ma := ma) (mn := mn) (mc := mc) hv hw).out [] W [.agg (headV hd ma mn mc), v] ⟨rfl, (fun b k e h => by cases h), (fun b b' k k' g h => by cases h), (fun g h => by obtain ⟨b, k, h, _⟩ := h; cases h), Below.refl _ _⟩
    (.cons ⟨_, rfl, .cons ⟨rfl, rfl⟩ (.cons ⟨rfl, rfl⟩ (.cons ⟨rfl, rfl⟩ (.cons ⟨rfl, rfl⟩ (.cons ⟨rfl, rfl⟩ (.cons ⟨rfl, rfl⟩ (.cons ⟨rfl, rfl⟩ (.cons ⟨rfl, rfl⟩ (.cons ⟨rfl, rfl⟩ (.cons ⟨rfl, rfl⟩ .nil)))))))))⟩ (.cons ⟨rfl, one_pages hv⟩ .nil))
  refine h.mono ?_
  rintro e W' ⟨r, H', ρ', x, ⟨rfl, rfl⟩, rfl, hx, hr, _, _, _⟩
  have : x = .bool true := hx.1
  subst this
  exact ⟨rfl, hr.base⟩
theorem reads (os : Os) {H : Type} (enc : TypeId × Value → H) : ∃ places, DataW.whole enc Tryz.prog ((World.doorLaid Tryz.prog 400 os).forCall (fun _ _ => 0) ⟨#[], #[.agg (headV ⟨0, 0, 0, 0, 0, 0, 0, 0, ByteArray.mk #[]⟩ none 0 0), .slice none 0 0], []⟩).memory Tryz.f3.params.toList (Rows.OpenSpec.upto Rows.fnOggBackSpec).vars false (#[.agg (headV ⟨0, 0, 0, 0, 0, 0, 0, 0, ByteArray.mk #[]⟩ none 0 0), .slice none 0 0] : Array Value).toList 8 = some ([.agg [.lit (.int .i64 0), .lit (.int .i64 0), .lit (.int .i64 0), .lit (.int .i64 0), .lit (.int .i64 0), .lit (.int .u32 0), .lit (.int .i64 0), .lit (.int .i64 0), .lit (.string []), .nil], .nil], [], places) :=
  ⟨[], by kernel_rfl⟩
set_option maxRecDepth 100000 in
theorem lifted (os : Os) (started : os.Started) (H : Type) (enc : TypeId × Value → H) (F : Stop.Interp) :
    ReturnsInHanded {} Tryz.checked os 3 .any ((Rows.OpenSpec.upto Rows.fnOggBackSpec).preRow enc Tryz.prog Tryz.f3 Rows.fnOggBackUptoRow.domain false Rows.fnOggBackUptoRow.laid) (((Rows.OpenSpec.upto Rows.fnOggBackSpec).at F).post enc Tryz.prog Tryz.f3 false true false false) := by
  obtain ⟨places, hx⟩ := reads os enc
  have hok : Input.okWideB Tryz.prog ((World.doorLaid Tryz.prog 400 os).forCall (fun _ _ => 0) ⟨#[], #[.agg (headV ⟨0, 0, 0, 0, 0, 0, 0, 0, ByteArray.mk #[]⟩ none 0 0), .slice none 0 0], []⟩) 3 ⟨#[], #[.agg (headV ⟨0, 0, 0, 0, 0, 0, 0, 0, ByteArray.mk #[]⟩ none 0 0), .slice none 0 0], []⟩ = true := by kernel_rfl
  refine returnsInHanded_of_row (C := Tryz.checked) (s := Rows.OpenSpec.upto Rows.fnOggBackSpec) own started (by kernel_rfl) Tryz.func3
    ⟨World.doorLaid Tryz.prog 400 os, fun _ _ => 0, ⟨#[], #[.agg (headV ⟨0, 0, 0, 0, 0, 0, 0, 0, ByteArray.mk #[]⟩ none 0 0), .slice none 0 0], []⟩, rfl, World.shaped_of_RefB (by kernel_rfl) (by kernel_rfl), (Input.okWide_of_okWideB (base := 0) hok).1, (Input.okWide_of_okWideB hok).2,
      OpenSpec.preRow_of_cond 8 hx (by kernel_rfl) (fun k hk => by cases hk; kernel_rfl) (by kernel_rfl) (doorO os _), by
        simp only [Assume.holds]
        exact ⟨by simp, by simp, by simp, by simp, by simp⟩⟩ ?_
  intro W base args ds gs before hval0 hW _ hcond _ hL _ _
  have hval : ∀ (j : Nat) t v, Tryz.f3.params[j]? = some t → args[j]? = some v → Value.okWide Tryz.prog W .any base t v := hval0
  have hW' := hW
  obtain ⟨p, q, hA0, hV, rfl, hfz, hnd⟩ := hW
  have hA : DataW.TrodAll enc Tryz.prog W 0 (fun _ => true) true Tryz.f3.params.toList args.toList ds p := hA0
  rw [Tryz.params3] at hA hval
  obtain ⟨v1, vs1, d1, ds1, p1, q1, hargs, rfl, rfl, h1, r1⟩ := trodAll_cons hA
  obtain ⟨v2, vs2, d2, ds2, p2, q2, rfl, rfl, rfl, h2, r2⟩ := trodAll_cons r1
  obtain ⟨rfl, rfl, rfl⟩ := trodAll_nil r2
  obtain rfl : args = #[v1, v2] := by cases args; simp_all
  obtain ⟨rfl, rfl⟩ := trodVars_none hV
  obtain ⟨cs, rfl, hsz⟩ := okWide_struct Tryz.underlying25 (hval 0 25 v1 rfl rfl)
  obtain ⟨a2, len2, cap2, rfl⟩ := okWide_slice Tryz.underlying26 (hval 1 26 v2 rfl rfl)
  have k1 := h1
  have k2 := h2
  have lt1 : ∀ x ∈ p1, x.block < W.heap.size := by obtain ⟨m, hm⟩ := k1; exact DataW.trod_lt m _ _ _ hm
  have lt2 : ∀ x ∈ p2, x.block < W.heap.size := by obtain ⟨m, hm⟩ := k2; exact DataW.trod_lt m _ _ _ hm
  obtain ⟨hd, ma, mn, mc, hcs, hr, hi, _⟩ : ∃ (hd : Hd) (ma : Option Addr) (mn mc : Nat), cs.toList = (headV hd ma mn mc).toList ∧ hd.rate < 4294967296 ∧ (∀ x ∈ [hd.ver, hd.ch, hd.map, hd.skip, hd.gain, hd.str, hd.cou], -9223372036854775808 ≤ x ∧ x < 9223372036854775808) ∧ hd.mapping.size ≤ maxLen := by
    obtain ⟨fuel, hf⟩ := h1
    exact opened_head hf
  obtain rfl : cs = headV hd ma mn mc := Array.ext' hcs
  obtain ⟨xs, hv, hw⟩ : ∃ xs, pgsAt W (.slice a2 len2 cap2) xs ∧ wtx xs ≤ 4 * Rows.uptoBulk d2 := by
    obtain ⟨fuel, hf⟩ := h2
    obtain ⟨v, xs, hcs, hl, hw⟩ := opened_pages hf
    obtain rfl : Value.slice a2 len2 cap2 = v := by simpa [Value.cells] using hcs
    exact ⟨xs, hl, hw⟩
  have hbk : wtx xs ≤ 1073741824 := by
    have hk := hcond _ rfl
    have hk := of_decide_eq_true hk
    simp only [List.append_nil, Rows.uptoBulkAll] at hk
    omega
  obtain ⟨hpw, ev, he⟩ := metO hL
  clear hA0 hval0
  refine (walk W hpw he hd ma mn mc hr hi hv hbk).mono fun e W' ⟨he, bel⟩ => ?_
  subst he
  exact ⟨_, rfl, _, _, _, [], _, [], hW', trodAll_mk1 (shut_bool Tryz.underlying4 _), (trodAll_cons_mk (Below.trod laidOut (by kernel_rfl) (of_decide_eq_true (by kernel_rfl)) k1 bel lt1) (trodAll_cons_mk (Below.trod laidOut (by kernel_rfl) (of_decide_eq_true (by kernel_rfl)) k2 bel lt2) trodAll_mk0)), rfl, bel.frame _, fun h => by cases h⟩
theorem said : Rows.FnOggBackUptoSaid :=
  OpenClaim.holds_of_cond 3 Tryz.f3 rfl rfl rfl rfl rfl rfl rfl ⟨rfl, rfl, rfl, rfl, rfl⟩ rfl rfl rfl rfl rfl (by kernel_rfl) Tryz.func3 (by kernel_rfl)
    (of_decide_eq_true (by kernel_rfl)) (by unfold Func.isWrapper; first | (rw [if_pos (by decide +kernel)]; kernel_rfl) | (rw [if_neg (by decide +kernel)]; exact ⟨rfl, rfl⟩))
    (fun os started H enc _ F => by rw [OpenClaim.pre_eq_preRow]; exact lifted os started H enc F)
theorem plain (f : FuncId) (fn : Func) (hf : Tryz.pinned.checked.prog.funcNamed "pub-carronade/laws.FnOggBack" = some f) (hfn : Tryz.pinned.checked.prog.funcs[f]? = some fn) :
    true = Tryz.pinned.checked.prog.looks [] ∧ ∀ (j : Nat) t, fn.params[j]? = some t → Tryz.pinned.checked.prog.wantsStandIn t = false := by
  obtain rfl : f = 3 := Option.some.inj ((show Tryz.prog.funcNamed "pub-carronade/laws.FnOggBack" = some 3 by kernel_rfl).symm.trans hf) |>.symm
  obtain rfl : fn = Tryz.f3 := (Option.some.inj (Tryz.func3.symm.trans hfn)).symm
  refine ⟨by kernel_rfl, fun j t ht => ?_⟩
  rw [Tryz.params3] at ht
  have hm : t ∈ [25, 26] := by simpa using Array.mem_of_getElem? ht
  have hall : ([25, 26].all fun u => !Tryz.prog.wantsStandIn u) = true := by kernel_rfl
  exact (show Tryz.prog.wantsStandIn t = false by simpa using List.all_eq_true.1 hall t hm)
theorem proved : Rows.FnOggBackUptoCardSaid :=
  Claim7.holds_tied_plain_at .later [] _ _ _ _ said (fun _ h => by cases h) (by kernel_rfl) (fun _ h => by cases h) fnOggBackUpto_row_tie rfl ⟨rfl, rfl⟩ (by kernel_rfl) rfl plain (by kernel_rfl)
end Go.Proofs.YtokkphocaloelaaGreatDoor.fnOggBack
namespace Go.Proofs.YtokkphocaloelaaGreatDoor
/-- The statement, under a short name. -/
theorem ogg_back_holds : Rows.FnOggBackUptoCardSaid := fnOggBack.proved
#print axioms ogg_back_holds
end Go.Proofs.YtokkphocaloelaaGreatDoor

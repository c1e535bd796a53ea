/- Any script of symbols that is written is read again: each symbol, and behind each one the range that the writer had (at most 400 symbols; parts of a total are read as lying within them). -/
import Derived.Test.YtkomikpfnogjcaaRows
import Derived.Test.YtkomikpfnogjcaaRwA
import Derived.Test.YtkomikpfnogjcaaRsJ
import Derived.WalkKit
import Derived.ProofKit
import Derived.OpenShut
import Derived.ChangeOld
import Derived.Below
import Derived.SizedLaws
namespace Go.Proofs.Ytkomikpfnogjcaa.fnRangeBack
open Go Go.Vc
open Go.ChangeShapes Go.WideShapes Go.ChangeAt Go.RowKit
set_option linter.unusedVariables false

theorem own : ownKnob Try.prog.godebug = none := by kernel_rfl
theorem laidOut : laidOutB Try.prog = true := by kernel_rfl
theorem walk (v : Value) (l : List OpV) (W : World) (hv : opsAt W v l) (hl : l.length ≤ 9223372036854775807) :
    Calls Try.prog 4 #[v] W fun e W' => e = .returned (.bool true) ∧ Below W.heap.size W W' := by
  have h := (backW W hv hl).out [] W [v] ⟨rfl, (fun b k e h => by cases h), (fun b b' k k' g h => by cases h), (fun g h => by obtain ⟨b, k, h, _⟩ := h; cases h), Below.refl _ _⟩
    (.cons ⟨rfl, ?_⟩ .nil)
  · refine h.mono ?_
    rintro e W' ⟨r, H', ρ', x, rfl, rfl, hx, hr, _, _, _⟩
    have : x = .bool true := hx.1
    subst this
    exact ⟨rfl, hr.base⟩
  · rcases hv with ⟨rfl, _⟩ | ⟨a, c, rfl, _⟩ <;> rfl

set_option maxRecDepth 100000 in
theorem lifted (os : Os) (started : os.Started) (H : Type) (enc : TypeId × Value → H) :
    ReturnsInHanded {} Try.checked os 4 .any (Rows.fnRangeBackSpec.pre6 enc Try.prog Try.f4 Rows.fnRangeBackRow.domain false) (Rows.fnRangeBackSpec.post enc Try.prog Try.f4 false true false false) := by
  refine returnsInHanded_of_change_sized (C := Try.checked) own started (by kernel_rfl) Try.func4
    (ChangeSpec.witness6 (enc := enc) (C := Try.checked) false ⟨#[], #[.slice none 0 0], []⟩ 8 (by kernel_rfl) (by kernel_rfl) (by kernel_rfl) (by kernel_rfl)) ?_
  intro W base args ds gs before hval0 hW hcnd hsz0 _
  have hsz : (DataW.weightsEach Try.prog (Try.f4.params.toList ++ Rows.fnRangeBackSpec.plain.varTypes Try.prog) (ds ++ gs)).all (· ≤ reachBytes) = true := hsz0
  have hval : ∀ (j : Nat) t v, Try.f4.params[j]? = some t → args[j]? = some v → Value.okWide Try.prog W .any base t v := hval0
  have hW' := hW
  obtain ⟨p, q, hA0, hV, rfl, hfz, hnd⟩ := hW
  have hA : DataW.TrodAll enc Try.prog W 0 (fun _ => true) true Try.f4.params.toList args.toList ds p := hA0
  rw [Try.params4] at hA hval hsz
  obtain ⟨v1, vs1, d1, ds1, p1, q1, hargs, rfl, rfl, h1, r1⟩ := trodAll_cons hA
  obtain ⟨rfl, rfl, rfl⟩ := trodAll_nil r1
  obtain rfl : args = #[v1] := by cases args; simp_all
  obtain ⟨rfl, rfl⟩ := trodVars_none hV
  obtain ⟨a1, len1, cap1, rfl⟩ := okWide_slice Try.underlying22 (hval 0 22 v1 rfl rfl)
  have k1 := h1
  have lt1 : ∀ x ∈ p1, x.block < W.heap.size := by obtain ⟨m, hm⟩ := k1; exact DataW.trod_lt m _ _ _ hm
  obtain ⟨l, w1⟩ : ∃ l, opsAt W (.slice a1 len1 cap1) l := by
    obtain ⟨fuel, hf⟩ := h1
    obtain ⟨v, l, hcs, hl⟩ := opened_ops hf
    obtain rfl : Value.slice a1 len1 cap1 = v := by simpa [Value.cells] using hcs
    exact ⟨l, hl⟩
  have hl : l.length ≤ 9223372036854775807 := by
    rcases w1 with ⟨_, rfl⟩ | ⟨a, c, _, h1, h2, _⟩
    · exact Nat.zero_le _
    · omega
  clear hA0 hval0 hsz0 hsz
  refine (walk (.slice a1 len1 cap1) l W w1 hl).mono fun e W' ⟨he, bel⟩ => ?_
  subst he
  exact ⟨_, rfl, _, _, _, [], _, [], hW', trodAll_mk1 (shut_bool Try.underlying4 _), (trodAll_cons_mk (Below.trod laidOut (by kernel_rfl) (of_decide_eq_true (by kernel_rfl)) k1 bel lt1) trodAll_mk0), rfl, bel.frame _, fun h => by cases h⟩
theorem over : Rows.fnRangeBackRow.holds Try.pinned (OpenSpec.ofChange Rows.fnRangeBackSpec) :=
  OpenClaim.holds_of_wide 4 Try.f4 rfl rfl rfl rfl rfl rfl rfl ⟨rfl, rfl, rfl, rfl, rfl⟩ rfl rfl rfl rfl rfl (by kernel_rfl) Try.func4 (by kernel_rfl)
    (of_decide_eq_true (by kernel_rfl)) (by unfold Func.isWrapper; first | (rw [if_pos (by decide +kernel)]; kernel_rfl) | (rw [if_neg (by decide +kernel)]; exact ⟨rfl, rfl⟩))
    (fun os started H enc _ => lifted os started H enc)
theorem proved : Rows.FnRangeBackSaid := over
end Go.Proofs.Ytkomikpfnogjcaa.fnRangeBack
namespace Go.Proofs.Ytkomikpfnogjcaa
/-- The statement, under a short name. -/
theorem back_holds : Rows.FnRangeBackSaid := fnRangeBack.proved
#print axioms back_holds
end Go.Proofs.Ytkomikpfnogjcaa

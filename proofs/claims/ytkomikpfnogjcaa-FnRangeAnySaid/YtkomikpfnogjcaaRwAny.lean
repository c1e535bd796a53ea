/- Any bytes are read by any script of contexts as RFC 6716 (4.1) says: each value, the range, how many bits are used, in whole ones and in eighths, and how many are left. -/
import Derived.Test.YtkomikpfnogjcaaRows
import Derived.Test.YtkomikpfnogjcaaRwA
import Derived.Test.YtkomikpfnogjcaaRmF
import Derived.WalkKit
import Derived.ProofKit
import Derived.OpenShut
import Derived.ShutString
import Derived.ChangeOld
import Derived.Below
import Derived.SizedLaws
namespace Go.Proofs.Ytkomikpfnogjcaa.fnRangeAny
open Go Go.Vc
open Go.ChangeShapes Go.WideShapes Go.ChangeAt Go.RowKit
open Go.ChangeMaps (open_string shut_string)
set_option linter.unusedVariables false

theorem own : ownKnob Try.prog.godebug = none := by kernel_rfl
theorem laidOut : laidOutB Try.prog = true := by kernel_rfl
theorem walk (b : ByteArray) (v : Value) (l : List OpV) (W : World) (hv : opsAt W v l) (hl : l.length ≤ 9223372036854775807) :
    Calls Try.prog 3 #[.string b, v] W fun e W' => e = .returned (.bool true) ∧ Below W.heap.size W W' := by
  have h := (anyW W (b := b) hv hl).out [] W [.string b, v] ⟨rfl, (fun b k e h => by cases h), (fun b b' k k' g h => by cases h), (fun g h => by obtain ⟨b, k, h, _⟩ := h; cases h), Below.refl _ _⟩
    (.cons ⟨rfl, rfl⟩ (.cons ⟨rfl, ?_⟩ .nil))
  · refine h.mono ?_
    rintro e W' ⟨r, H', ρ', x, rfl, rfl, hx, hr, _, _, _⟩
    have : x = .bool true := hx.1
    subst this
    exact ⟨rfl, hr.base⟩
  · rcases hv with ⟨rfl, _⟩ | ⟨a, c, rfl, _⟩ <;> rfl

set_option maxRecDepth 100000 in
theorem lifted (os : Os) (started : os.Started) (H : Type) (enc : TypeId × Value → H) :
    ReturnsInHanded {} Try.checked os 3 .any (Rows.fnRangeAnySpec.pre6 enc Try.prog Try.f3 Rows.fnRangeAnyRow.domain false) (Rows.fnRangeAnySpec.post enc Try.prog Try.f3 false true false false) := by
  refine returnsInHanded_of_change_sized (C := Try.checked) own started (by kernel_rfl) Try.func3
    (ChangeSpec.witness6 (enc := enc) (C := Try.checked) false ⟨#[], #[.string ByteArray.empty, .slice none 0 0], []⟩ 8 (by kernel_rfl) (by kernel_rfl) (by kernel_rfl) (by kernel_rfl)) ?_
  intro W base args ds gs before hval0 hW hcnd hsz0 _
  have hsz : (DataW.weightsEach Try.prog (Try.f3.params.toList ++ Rows.fnRangeAnySpec.plain.varTypes Try.prog) (ds ++ gs)).all (· ≤ reachBytes) = true := hsz0
  have hval : ∀ (j : Nat) t v, Try.f3.params[j]? = some t → args[j]? = some v → Value.okWide Try.prog W .any base t v := hval0
  have hW' := hW
  obtain ⟨p, q, hA0, hV, rfl, hfz, hnd⟩ := hW
  have hA : DataW.TrodAll enc Try.prog W 0 (fun _ => true) true Try.f3.params.toList args.toList ds p := hA0
  rw [Try.params3] at hA hval hsz
  obtain ⟨v0, vs0, d0, ds0, p0, q0, hargs, rfl, rfl, h0, r0⟩ := trodAll_cons hA
  obtain ⟨v1, vs1, d1, ds1, p1, q1, rfl, rfl, rfl, h1, r1⟩ := trodAll_cons r0
  obtain ⟨rfl, rfl, rfl⟩ := trodAll_nil r1
  obtain rfl : args = #[v0, v1] := by cases args; simp_all
  obtain ⟨rfl, rfl⟩ := trodVars_none hV
  obtain ⟨a0, rfl, rfl, rfl, y0⟩ := open_string Try.underlying9 (hval 0 9 v0 rfl rfl) h0
  obtain ⟨a1, len1, cap1, rfl⟩ := okWide_slice Try.underlying22 (hval 1 22 v1 rfl rfl)
  have k1 := h1
  have lt1 : ∀ x ∈ p1, x.block < W.heap.size := by obtain ⟨m, hm⟩ := k1; exact DataW.trod_lt m _ _ _ hm
  obtain ⟨l, w1⟩ : ∃ l, opsAt W (.slice a1 len1 cap1) l := by
    obtain ⟨fuel, hf⟩ := h1
    obtain ⟨v, l, hcs, hl⟩ := opened_ops hf
    obtain rfl : Value.slice a1 len1 cap1 = v := by simpa [Value.cells] using hcs
    exact ⟨l, hl⟩
  have hl : l.length ≤ 9223372036854775807 := by
    rcases w1 with ⟨_, rfl⟩ | ⟨a, c, _, h1, h2, _⟩
    · exact Nat.zero_le _
    · omega
  clear hA0 hval0 hsz0 hsz
  refine (walk a0 (.slice a1 len1 cap1) l W w1 hl).mono fun e W' ⟨he, bel⟩ => ?_
  subst he
  exact ⟨_, rfl, _, _, _, [], _, [], hW', trodAll_mk1 (shut_bool Try.underlying4 _), (trodAll_cons_mk (shut_string Try.underlying9 y0) (trodAll_cons_mk (Below.trod laidOut (by kernel_rfl) (of_decide_eq_true (by kernel_rfl)) k1 bel lt1) trodAll_mk0)), rfl, bel.frame _, fun h => by cases h⟩
theorem over : Rows.fnRangeAnyRow.holds Try.pinned (OpenSpec.ofChange Rows.fnRangeAnySpec) :=
  OpenClaim.holds_of_wide 3 Try.f3 rfl rfl rfl rfl rfl rfl rfl ⟨rfl, rfl, rfl, rfl, rfl⟩ rfl rfl rfl rfl rfl (by kernel_rfl) Try.func3 (by kernel_rfl)
    (of_decide_eq_true (by kernel_rfl)) (by unfold Func.isWrapper; first | (rw [if_pos (by decide +kernel)]; kernel_rfl) | (rw [if_neg (by decide +kernel)]; exact ⟨rfl, rfl⟩))
    (fun os started H enc _ => lifted os started H enc)
theorem proved : Rows.FnRangeAnySaid := over
end Go.Proofs.Ytkomikpfnogjcaa.fnRangeAny
namespace Go.Proofs.Ytkomikpfnogjcaa
/-- The statement, under a short name. -/
theorem range_any_holds : Rows.FnRangeAnySaid := fnRangeAny.proved
#print axioms range_any_holds
end Go.Proofs.Ytkomikpfnogjcaa

/- Raw bits that are written come back whatever symbols stand between them, and the symbols, but for parts of a total, whatever raw bits do (at most 200 of each). -/
import Derived.Test.YtkomikpfnogjcaaRows
import Derived.Test.YtkomikpfnogjcaaRwA
import Derived.Test.YtkomikpfnogjcaaRuB
import Derived.Deep.Grids
import Derived.WalkKit
import Derived.ProofKit
import Derived.OpenShut
import Derived.ChangeOld
import Derived.Below
import Derived.SizedLaws
namespace Go.Proofs.Ytkomikpfnogjcaa.fnRangeRaw
open Go Go.Vc
open Go.ChangeShapes Go.WideShapes Go.ChangeAt Go.RowKit
set_option linter.unusedVariables false

theorem own : ownKnob Try.prog.godebug = none := by kernel_rfl
theorem laidOut : laidOutB Try.prog = true := by kernel_rfl
theorem one_ops {W : World} {v : Value} {l : List OpV} (hv : opsAt W v l) : v.oneCell' = true := by
  rcases hv with ⟨rfl, _⟩ | ⟨a, c, rfl, _⟩ <;> rfl
theorem walk (v1 v2 : Value) (l rw : List OpV) (C : Option Addr) (n c : Nat) (W : World) (hv : opsAt W v1 l) (hv2 : opsAt W v2 rw) (hl : l.length ≤ 9223372036854775807) (hr : rw.length ≤ 9223372036854775807)
    (h3 : ∀ i, i < n → ∃ a, C = some a ∧ ∃ b, W.cell? (a.add i) = some (.bool b)) :
    Calls Try.prog 6 #[v1, v2, .slice C n c] W fun e W' => e = .returned (.bool true) ∧ Below W.heap.size W W' := by
  have h := (rawLawW W hv hv2 hl hr ⟨C, c, rfl, h3⟩).out [] W [v1, v2, .slice C n c] ⟨rfl, (fun b k e h => by cases h), (fun b b' k k' g h => by cases h), (fun g h => by obtain ⟨b, k, h, _⟩ := h; cases h), Below.refl _ _⟩
    (.cons ⟨rfl, one_ops hv⟩ (.cons ⟨rfl, one_ops hv2⟩ (.cons ⟨rfl, rfl⟩ .nil)))
  refine h.mono ?_
  rintro e W' ⟨r, H', ρ', x, rfl, rfl, hx, hr, _, _, _⟩
  have : x = .bool true := hx.1
  subst this
  exact ⟨rfl, hr.base⟩
theorem len_ops {W : World} {v : Value} {l : List OpV} (hv : opsAt W v l) : l.length ≤ 9223372036854775807 := by
  rcases hv with ⟨_, rfl⟩ | ⟨a, c, _, h1, h2, _⟩
  · exact Nat.zero_le _
  · omega

set_option maxRecDepth 100000 in
theorem lifted (os : Os) (started : os.Started) (H : Type) (enc : TypeId × Value → H) :
    ReturnsInHanded {} Try.checked os 6 .any (Rows.fnRangeRawSpec.pre6 enc Try.prog Try.f6 Rows.fnRangeRawRow.domain false) (Rows.fnRangeRawSpec.post enc Try.prog Try.f6 false true false false) := by
  refine returnsInHanded_of_change_sized (C := Try.checked) own started (by kernel_rfl) Try.func6
    (ChangeSpec.witness6 (enc := enc) (C := Try.checked) false ⟨#[], #[.slice none 0 0, .slice none 0 0, .slice none 0 0], []⟩ 8 (by kernel_rfl) (by kernel_rfl) (by kernel_rfl) (by kernel_rfl)) ?_
  intro W base args ds gs before hval0 hW hcnd hsz0 _
  have hsz : (DataW.weightsEach Try.prog (Try.f6.params.toList ++ Rows.fnRangeRawSpec.plain.varTypes Try.prog) (ds ++ gs)).all (· ≤ reachBytes) = true := hsz0
  have hval : ∀ (j : Nat) t v, Try.f6.params[j]? = some t → args[j]? = some v → Value.okWide Try.prog W .any base t v := hval0
  have hW' := hW
  obtain ⟨p, q, hA0, hV, rfl, hfz, hnd⟩ := hW
  have hA : DataW.TrodAll enc Try.prog W 0 (fun _ => true) true Try.f6.params.toList args.toList ds p := hA0
  rw [Try.params6] at hA hval hsz
  obtain ⟨v1, vs1, d1, ds1, p1, q1, hargs, rfl, rfl, h1, r1⟩ := trodAll_cons hA
  obtain ⟨v2, vs2, d2, ds2, p2, q2, rfl, rfl, rfl, h2, r2⟩ := trodAll_cons r1
  obtain ⟨v3, vs3, d3, ds3, p3, q3, rfl, rfl, rfl, h3, r3⟩ := trodAll_cons r2
  obtain ⟨rfl, rfl, rfl⟩ := trodAll_nil r3
  obtain rfl : args = #[v1, v2, v3] := by cases args; simp_all
  obtain ⟨rfl, rfl⟩ := trodVars_none hV
  obtain ⟨a1, len1, cap1, rfl⟩ := okWide_slice Try.underlying22 (hval 0 22 v1 rfl rfl)
  obtain ⟨a2, len2, cap2, rfl⟩ := okWide_slice Try.underlying22 (hval 1 22 v2 rfl rfl)
  obtain ⟨a3, len3, cap3, rfl⟩ := okWide_slice Try.underlying51 (hval 2 51 v3 rfl rfl)
  have k1 := h1
  have k2 := h2
  have k3 := h3
  have lt1 : ∀ x ∈ p1, x.block < W.heap.size := by obtain ⟨m, hm⟩ := k1; exact DataW.trod_lt m _ _ _ hm
  have lt2 : ∀ x ∈ p2, x.block < W.heap.size := by obtain ⟨m, hm⟩ := k2; exact DataW.trod_lt m _ _ _ hm
  have lt3 : ∀ x ∈ p3, x.block < W.heap.size := by obtain ⟨m, hm⟩ := k3; exact DataW.trod_lt m _ _ _ hm
  obtain ⟨l, w1⟩ : ∃ l, opsAt W (.slice a1 len1 cap1) l := by
    obtain ⟨fuel, hf⟩ := h1
    obtain ⟨v, l, hcs, hl⟩ := opened_ops hf
    obtain rfl : Value.slice a1 len1 cap1 = v := by simpa [Value.cells] using hcs
    exact ⟨l, hl⟩
  obtain ⟨rw, w2⟩ : ∃ l, opsAt W (.slice a2 len2 cap2) l := by
    obtain ⟨fuel, hf⟩ := h2
    obtain ⟨v, l, hcs, hl⟩ := opened_ops hf
    obtain rfl : Value.slice a2 len2 cap2 = v := by simpa [Value.cells] using hcs
    exact ⟨l, hl⟩
  have w3 : ∀ i, i < len3 → ∃ a, a3 = some a ∧ ∃ b, W.cell? (a.add i) = some (.bool b) := by
    obtain ⟨fuel, hf⟩ := h3
    have hf : DataW.trod enc Try.prog W 0 (fun _ => true) true fuel 51 [.slice a3 len3 cap3] = _ := hf
    rcases Deep.open_bools Try.underlying51 Try.underlying4 (by kernel_rfl) hf with ⟨hcs, _⟩ | ⟨a, len, cap, B, hcs, _, hl, _, _, hcell⟩
    · intro i hi
      cases hcs
      omega
    · intro i hi
      cases hcs
      exact ⟨a, rfl, B i, hcell i (by omega)⟩
  clear hA0 hval0 hsz0 hsz
  refine (walk (.slice a1 len1 cap1) (.slice a2 len2 cap2) l rw a3 len3 cap3 W w1 w2 (len_ops w1) (len_ops w2) w3).mono fun e W' ⟨he, bel⟩ => ?_
  subst he
  exact ⟨_, rfl, _, _, _, [], _, [], hW', trodAll_mk1 (shut_bool Try.underlying4 _), (trodAll_cons_mk (Below.trod laidOut (by kernel_rfl) (of_decide_eq_true (by kernel_rfl)) k1 bel lt1) (trodAll_cons_mk (Below.trod laidOut (by kernel_rfl) (of_decide_eq_true (by kernel_rfl)) k2 bel lt2) (trodAll_cons_mk (Below.trod laidOut (by kernel_rfl) (of_decide_eq_true (by kernel_rfl)) k3 bel lt3) trodAll_mk0))), rfl, bel.frame _, fun h => by cases h⟩
theorem over : Rows.fnRangeRawRow.holds Try.pinned (OpenSpec.ofChange Rows.fnRangeRawSpec) :=
  OpenClaim.holds_of_wide 6 Try.f6 rfl rfl rfl rfl rfl rfl rfl ⟨rfl, rfl, rfl, rfl, rfl⟩ rfl rfl rfl rfl rfl (by kernel_rfl) Try.func6 (by kernel_rfl)
    (of_decide_eq_true (by kernel_rfl)) (by unfold Func.isWrapper; first | (rw [if_pos (by decide +kernel)]; kernel_rfl) | (rw [if_neg (by decide +kernel)]; exact ⟨rfl, rfl⟩))
    (fun os started H enc _ => lifted os started H enc)
theorem proved : Rows.FnRangeRawSaid := over
end Go.Proofs.Ytkomikpfnogjcaa.fnRangeRaw
namespace Go.Proofs.Ytkomikpfnogjcaa
/-- The statement, under a short name. -/
theorem raw_holds : Rows.FnRangeRawSaid := fnRangeRaw.proved
#print axioms raw_holds
end Go.Proofs.Ytkomikpfnogjcaa

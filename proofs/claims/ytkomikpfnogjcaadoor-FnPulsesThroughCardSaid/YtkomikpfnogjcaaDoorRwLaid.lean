/- What the listed variable of strconv holds: the powers of ten. -/
import Derived.Test.YtkomikpfnogjcaaDoorRows
import Derived.Test.YtkomikpfnogjcaaDoorPuQ
import Derived.Stop.LaidErr
import Derived.LaidMore
import Derived.Stop.Joined
import Derived.OpenShut
import Derived.ChangeSlices
namespace Go.Proofs.YtkomikpfnogjcaaDoor
open Go Go.Vc
open Go.ChangeShapes Go.WideShapes Go.RowKit

theorem own : ownKnob Tryd.prog.godebug = none := by kernel_rfl
theorem laidOut : laidOutB Tryd.prog = true := by kernel_rfl
theorem gPow : Tryd.prog.globalNamed "internal/strconv.uint64pow10" = some 0 := by kernel_rfl
theorem tPow : (Tryd.prog.globals[0]?).map (·.type) = some 118 := by kernel_rfl
theorem cellsPow : Tryd.prog.cellsOf 118 = 20 := by kernel_rfl
theorem cells64 : Tryd.prog.cellsOf 40 = 1 := by kernel_rfl
def laid3 : List (String × DataW Unit) := [("math/bits.deBruijn32tab", Rows.laid_math_bits_deBruijn32tab), ("math/bits.deBruijn64tab", Rows.laid_math_bits_deBruijn64tab), ("internal/strconv.uint64pow10", Rows.laid_internal_strconv_uint64pow10)]
theorem door_met (os : Os) (args : Array Value) : laidMetH Tryd.prog laid3 ((World.doorLaid Tryd.prog 400 os).forCall (fun _ _ => 0) ⟨#[], args, []⟩).memory :=
  laidMetH_of_parts3 (fuel := 8) (laidMet_of_run' 8 (by kernel_rfl) (by kernel_rfl)) (by kernel_rfl) (by kernel_rfl)
theorem powsList : Rows.laid_internal_strconv_uint64pow10 (H := Unit) = .agg ((List.range 20).map fun i => .lit (.int .u64 ((10 ^ i : Nat) : Int))) := by kernel_rfl
theorem pows_of_laid {W : World} (h : laidMetH Tryd.prog laid3 W) : pows W := by
  rw [MakeChecks.laidMetH_plain _ _ _ (by kernel_rfl)] at h
  have h := h.tail.tail
  obtain ⟨ps, ⟨g0, t0, cs0, f0, p0, q0, hg0, ht0, hv0, hd0, _, e0⟩, _, hrows⟩ := h
  obtain rfl := Option.some.inj (gPow.symm.trans hg0)
  obtain rfl := Option.some.inj (tPow.symm.trans ht0)
  rw [powsList] at hd0
  obtain ⟨xs, m, _, hx, hl, hlen, hel⟩ := DataW.trod_array Tryd.underlying118 hd0
  intro i hi
  have h1 := hel i hi
  rw [cells64, Nat.mul_one] at h1
  obtain ⟨x, hxi⟩ : ∃ x, xs[i]? = some x := ⟨_, List.getElem?_eq_getElem (by omega)⟩
  rw [hxi] at h1
  obtain ⟨n, e1, e2, _⟩ := DataW.trod_int Tryd.underlying40 h1
  have e3 : ((List.range 20).map fun i => (DataW.lit (.int .u64 ((10 ^ i : Nat) : Int)) : DataW Unit)) = xs.map (·.1) := by
    have := (Prod.mk.inj hx).1
    exact DataW.agg.inj this
  have e4 : (xs.map (·.1))[i]? = some x.1 := by rw [List.getElem?_map, hxi]; rfl
  rw [← e3, List.getElem?_map, List.getElem?_range hi] at e4
  have e5 : (DataW.lit (.int .u64 ((10 ^ i : Nat) : Int)) : DataW Unit) = x.1 := Option.some.inj e4
  rw [e2] at e5
  have e6 : ((10 ^ i : Nat) : Int) = n := by
    have := DataW.lit.inj e5
    injection this
  have hc := World.var?_cell gPow hv0 i
  show W.cell? ((Addr.mk 0 0 none).add (i * 1)) = _
  have ea : (Addr.mk 0 0 none).add (i * 1) = ⟨0, i, none⟩ := by
    simp only [Addr.add, Nat.mul_one, Nat.zero_add]
    split
    · rename_i c
      simp_all
    · rfl
  rw [ea, hc]
  have e7 : cs0.toList[i]? = some (.int .u64 n) := by
    have h2 : ((cs0.toList.drop i).take 1)[0]? = some (.int .u64 n) := by rw [e1]; rfl
    rw [List.getElem?_take, if_pos (by omega), List.getElem?_drop, Nat.add_zero] at h2
    exact h2
  rw [← Array.getElem?_toList, e7, e6]
section
variable {H : Type} {enc : TypeId × Value → H} {w : World} {base : Nat} {spare : Nat → Bool} {held : Bool}
theorem wf_i64' {n : Int} (h : (Lit.int .i64 n).wf = true) : -9223372036854775808 ≤ n ∧ n < 9223372036854775808 := by
  simp only [Lit.wf, Bool.and_eq_true, decide_eq_true_eq] at h
  have h1 : -9223372036854775808 ≤ n := h.1
  have h2 : n ≤ 9223372036854775807 := h.2
  omega
theorem opened_ints {n : Nat} {cs : List Value} {x : DataW H × List MemPlace} (h : DataW.trod enc Tryd.prog w base spare held n 22 cs = some x) :
    ∃ v ys, cs = [v] ∧ intsAt w v ys := by
  have e3 : Tryd.prog.cellsOf 3 = 1 := by kernel_rfl
  rcases Go.ChangeShapes.open_ints Tryd.underlying22 Tryd.underlying3 e3 h with ⟨hcs, _⟩ | ⟨a, len, cap, zs, hcs, _, hlc, hm, hz, _, hcell, hwz⟩
  · exact ⟨_, [], hcs, Or.inl ⟨rfl, rfl⟩⟩
  · have hln : len ≤ zs.length := by rw [hz]; split <;> omega
    have hml : maxLen ≤ 9223372036854775807 := by decide
    have htl : (zs.take len).length = len := by rw [List.length_take]; omega
    refine ⟨_, zs.take len, hcs, Or.inr ⟨a, cap, by rw [htl], by omega, by omega, fun i s hi => ?_⟩⟩
    have hil : i < len := by
      have := (List.getElem?_eq_some_iff.1 hi).1
      omega
    rw [List.getElem?_take, if_pos hil] at hi
    refine ⟨wf_i64' (hwz _ (List.mem_of_getElem? hi)), ?_⟩
    rw [Nat.mul_one, hcell i (by omega), List.getD_eq_getElem?_getD, hi]
    rfl
end
end Go.Proofs.YtkomikpfnogjcaaDoor

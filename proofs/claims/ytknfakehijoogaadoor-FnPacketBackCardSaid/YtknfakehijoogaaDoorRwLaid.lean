/- What the listed variables hold: errors that are not nil. -/
import Derived.Test.YtknfakehijoogaaDoorRows
import Derived.Test.YtknfakehijoogaaDoorPkC
import Derived.Stop.LaidErr
import Derived.LaidMore
import Derived.Stop.Joined
namespace Go.Proofs.YtknfakehijoogaaDoor
open Go Go.Vc
open Go.ChangeShapes Go.WideShapes Go.RowKit

theorem own : ownKnob Tryd.prog.godebug = none := by kernel_rfl
theorem laidOut : laidOutB Tryd.prog = true := by kernel_rfl
theorem gShort : Tryd.prog.globalNamed "pub-carronade/pub/opus.errTooShortForTableOfContentsHeader" = some 0 := by kernel_rfl
theorem gMalformed : Tryd.prog.globalNamed "pub-carronade/pub/opus.errMalformedPacket" = some 1 := by kernel_rfl
theorem gCode : Tryd.prog.globalNamed "pub-carronade/pub/opus.errUnsupportedFrameCode" = some 2 := by kernel_rfl
theorem tShort : (Tryd.prog.globals[0]?).map (·.type) = some 40 := by kernel_rfl
theorem tMalformed : (Tryd.prog.globals[1]?).map (·.type) = some 40 := by kernel_rfl
theorem tCode : (Tryd.prog.globals[2]?).map (·.type) = some 40 := by kernel_rfl
theorem cells133 : Tryd.prog.cellsOf 133 = 1 := by kernel_rfl
theorem cells9 : Tryd.prog.cellsOf 9 = 1 := by kernel_rfl
theorem star : "*" ++ "errors.errorString" = "*errors.errorString" := by decide
theorem row117 (u : TypeId) (h : Tryd.prog.typeName? 3 u = some "*errors.errorString") : u = 117 :=
  typeName_ptr_named (nm := "errors.errorString") (by rw [star]; kernel_rfl) (by kernel_rfl) (by decide) u (by rw [star]; exact h)
def laid3 : List (String × DataW Unit) := [("pub-carronade/pub/opus.errTooShortForTableOfContentsHeader", Rows.laid_pub_carronade_pub_opus_errTooShortForTableOfContentsHeader), ("pub-carronade/pub/opus.errUnsupportedFrameCode", Rows.laid_pub_carronade_pub_opus_errUnsupportedFrameCode), ("pub-carronade/pub/opus.errMalformedPacket", Rows.laid_pub_carronade_pub_opus_errMalformedPacket)]
theorem door_met (os : Os) (args : Array Value) : laidMetH Tryd.prog laid3 ((World.doorLaid Tryd.prog 400 os).forCall (fun _ _ => 0) ⟨#[], args, []⟩).memory :=
  laidMetH_of_parts3 (fuel := 8) (laidMet_of_run' 8 (by kernel_rfl) (by kernel_rfl)) (by kernel_rfl) (by kernel_rfl)
theorem errs_of_laid {W : World} (h : laidMetH Tryd.prog laid3 W) : errAt W 0 ∧ errAt W 1 := by
  rw [MakeChecks.laidMetH_plain _ _ _ (by kernel_rfl)] at h
  obtain ⟨a0, s0, hv0, _⟩ := laid_sentinel h gShort tShort Tryd.underlying40 row117 Tryd.underlying117 Tryd.underlying133 rfl rfl Tryd.underlying9 cells133 cells9
  have h := h.tail.tail
  obtain ⟨a1, s1, hv1, _⟩ := laid_sentinel h gMalformed tMalformed Tryd.underlying40 row117 Tryd.underlying117 Tryd.underlying133 rfl rfl Tryd.underlying9 cells133 cells9
  exact ⟨⟨_, _, by simpa using World.var?_cell gShort hv0 0⟩, ⟨_, _, by simpa using World.var?_cell gMalformed hv1 0⟩⟩
end Go.Proofs.YtknfakehijoogaaDoor

/-
  DERIVED. GIVEN WITH THE SEED: THE PROGRAM's TIES (one call each: nine closed facts by the kernel) AND EACH ROW's TIE, after the 31st guide's Derived/Test/Toyas{Tie, Card}.lean. No idea stands in it: it is a product of the set-up. Laid BY PROGRAM, IN A SANDBOX (cutbox-door.mjs). By AI agents, Wed Nov 11 2026. No macro, syntax, notation, axiom, sorry.
-/
import Derived.Test.YtknfakehijoogaaDoorRows
import Derived.LaidByTextLater
import Derived.SevenTiedAt
import Derived.LaidSub
import Derived.LaidOnce
namespace Go.Proofs.YtknfakehijoogaaDoor
open Go
set_option maxRecDepth 100000
theorem seatTie1 : Tryd.prog.laidByTextLater [("pub-carronade/pub/opus.errTooShortForTableOfContentsHeader", Rows.laid_pub_carronade_pub_opus_errTooShortForTableOfContentsHeader), ("pub-carronade/pub/opus.errUnsupportedFrameCode", Rows.laid_pub_carronade_pub_opus_errUnsupportedFrameCode), ("pub-carronade/pub/opus.errMalformedPacket", Rows.laid_pub_carronade_pub_opus_errMalformedPacket)] [.sentinel, .sentinel, .sentinel] true :=
  Program.laidByTextLater_by_one 66 8 2 (by kernel_rfl) (by kernel_rfl) (by kernel_rfl) (by kernel_rfl) (by kernel_rfl) (by kernel_rfl) (fun _ _ => by kernel_rfl)
theorem noOwnUnsafe : Tryd.pinned.checked.prog.headLifts.contains "ownunsafe" = false := by kernel_rfl
theorem tie : Tryd.prog.laidByTextLater [("pub-carronade/pub/opus.errTooShortForTableOfContentsHeader", Rows.laid_pub_carronade_pub_opus_errTooShortForTableOfContentsHeader), ("pub-carronade/pub/opus.errUnsupportedFrameCode", Rows.laid_pub_carronade_pub_opus_errUnsupportedFrameCode), ("pub-carronade/pub/opus.errMalformedPacket", Rows.laid_pub_carronade_pub_opus_errMalformedPacket)] [.sentinel, .sentinel, .sentinel] true :=
  Program.laidByTextLater.sub seatTie1 ["pub-carronade/pub/opus.errTooShortForTableOfContentsHeader", "pub-carronade/pub/opus.errUnsupportedFrameCode", "pub-carronade/pub/opus.errMalformedPacket"] (by kernel_rfl) (by kernel_rfl)
theorem fnPacketAny_row_tie : Rows.fnPacketAnyRow.laidByTextAt .later Tryd.pinned [.sentinel, .sentinel, .sentinel] true :=
  OpenClaim.laidByTextAt_later rfl rfl tie noOwnUnsafe
theorem fnPacketBack_row_tie : Rows.fnPacketBackRow.laidByTextAt .later Tryd.pinned [.sentinel, .sentinel, .sentinel] true :=
  OpenClaim.laidByTextAt_later rfl rfl tie noOwnUnsafe
theorem fnPacketAnyUpto_row_tie : Rows.fnPacketAnyUptoRow.laidByTextAt .later Tryd.pinned [.sentinel, .sentinel, .sentinel] true :=
  OpenClaim.laidByTextAt_later rfl rfl tie noOwnUnsafe
theorem fnPacketBackUpto_row_tie : Rows.fnPacketBackUptoRow.laidByTextAt .later Tryd.pinned [.sentinel, .sentinel, .sentinel] true :=
  OpenClaim.laidByTextAt_later rfl rfl tie noOwnUnsafe
end Go.Proofs.YtknfakehijoogaaDoor

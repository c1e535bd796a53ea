/-
  NARROWER THAN 'FOR EVERY INPUT', by the rows' own cells (each row's printed sentence says how): FnPacketAny: laid · FnPacketBack: laid.
  DERIVED. THE GIVEN ROWS OF THIS SEAT. 2 by the template 'for every input the law returns true; each argument reads behind the call as it read before'; 0 by the template 'total and deterministic' (their statements: YtknfakehijoogaaDoorTotals.lean).
  GIVEN WITH THE SEED: the statements are not yours to turn. If you find one false, say at which input.
  Laid BY PROGRAM, IN A SANDBOX (cutbox-rows.mjs): the forced cells as the released guide's own fill.sh prints them over the translation 26f7d6d73b094aaf… (all of the seat's roots in one cut). By AI agents, Wed Nov 11 2026. No macro, syntax, notation, axiom, sorry.
-/
import Derived.Test.YtknfakehijoogaaDoorChecked
import GoSem.Claim
import GoSem.ClaimJoined
import GoSem.ClaimMapViews
import Derived.JoinedTies
import Derived.KernelRfl
namespace Go.Proofs.YtknfakehijoogaaDoor
/- THE CELL 'sum', in the pinned program and in every row, IS THE sha256 OF THE DUMP (.gsa) THAT YtknfakehijoogaaDoorProg.lean LOADS. Nothing in Lean hashes anything: it is a label: what it is worth is what the hold of that sum in a sandbox is worth. -/
noncomputable def Tryd.pinned : Pinned := { name := "ytknfakehijoogaadoor", sum := "26f7d6d73b094aafd039278f0b7c6a31f6bbaf759e6dc5c8f242dc17cd9304fe", checked := Tryd.checked }
namespace Rows
def none {H : Type} : Left H := { results := [], args := [] }

/- WHAT THE LISTED PACKAGE-LEVEL VARIABLES READ AS WHEN THE CALL BEGINS. Each datum BY PROGRAM (the guide's laid-datum.mjs) off the statement by which the dump's own 'gosem.cut.vars' lays the variable. In a bare row this is a premise. The card (YtknfakehijoogaaDoorCards.lean) ties it to the program's text. -/
def laid_pub_carronade_pub_opus_errTooShortForTableOfContentsHeader {H : Type} : DataW H := .iface "*errors.errorString" (.ptr (.agg [.lit (.string [112, 97, 99, 107, 101, 116, 32, 105, 115, 32, 116, 111, 111, 32, 115, 104, 111, 114, 116, 32, 116, 111, 32, 99, 111, 110, 116, 97, 105, 110, 32, 116, 97, 98, 108, 101, 32, 111, 102, 32, 99, 111, 110, 116, 101, 110, 116, 115, 32, 104, 101, 97, 100, 101, 114])]))
def laid_pub_carronade_pub_opus_errUnsupportedFrameCode {H : Type} : DataW H := .iface "*errors.errorString" (.ptr (.agg [.lit (.string [117, 110, 115, 117, 112, 112, 111, 114, 116, 101, 100, 32, 102, 114, 97, 109, 101, 32, 99, 111, 100, 101])]))
def laid_pub_carronade_pub_opus_errMalformedPacket {H : Type} : DataW H := .iface "*errors.errorString" (.ptr (.agg [.lit (.string [109, 97, 108, 102, 111, 114, 109, 101, 100, 32, 112, 97, 99, 107, 101, 116])]))

/-- 'laws.FnPacketAny': WHATEVER THE INPUT: true; the input reads as it did. -/
def fnPacketAnySpec : ChangeSpec := { name := "fnPacketAny", fn := fun _ => fun
  | [d] => { results := [.lit (.bool true)], args := [d] }
  | _ => none }
def fnPacketAnyRow : OpenClaim := { program := "ytknfakehijoogaadoor", sum := "26f7d6d73b094aafd039278f0b7c6a31f6bbaf759e6dc5c8f242dc17cd9304fe", func := "pub-carronade/laws.FnPacketAny", spec := "fnPacketAny", unfollowed := true, recurses := true, named := ["pub-carronade/pub/opus.errTooShortForTableOfContentsHeader", "pub-carronade/pub/opus.errMalformedPacket", "pub-carronade/pub/opus.errUnsupportedFrameCode"], apart := false, laid := [("pub-carronade/pub/opus.errTooShortForTableOfContentsHeader", laid_pub_carronade_pub_opus_errTooShortForTableOfContentsHeader), ("pub-carronade/pub/opus.errUnsupportedFrameCode", laid_pub_carronade_pub_opus_errUnsupportedFrameCode), ("pub-carronade/pub/opus.errMalformedPacket", laid_pub_carronade_pub_opus_errMalformedPacket)] }
def FnPacketAnySaid : Prop := fnPacketAnyRow.holds Tryd.pinned (OpenSpec.ofChange fnPacketAnySpec)

/-- ITS FALSE NEIGHBOUR: 'it returns false'. Refute it at one input. -/
def fnPacketAnyWrong : ChangeSpec := { name := "fnPacketAny", fn := fun _ => fun
  | [d] => { results := [.lit (.bool false)], args := [d] }
  | _ => none }
def FnPacketAnyWrongFalsely : Prop := fnPacketAnyRow.holds Tryd.pinned (OpenSpec.ofChange fnPacketAnyWrong)

/-- 'laws.FnPacketBack': WHATEVER THE INPUT: true; the input reads as it did. -/
def fnPacketBackSpec : ChangeSpec := { name := "fnPacketBack", fn := fun _ => fun
  | [d] => { results := [.lit (.bool true)], args := [d] }
  | _ => none }
def fnPacketBackRow : OpenClaim := { program := "ytknfakehijoogaadoor", sum := "26f7d6d73b094aafd039278f0b7c6a31f6bbaf759e6dc5c8f242dc17cd9304fe", func := "pub-carronade/laws.FnPacketBack", spec := "fnPacketBack", unfollowed := true, recurses := true, named := ["pub-carronade/pub/opus.errTooShortForTableOfContentsHeader", "pub-carronade/pub/opus.errMalformedPacket", "pub-carronade/pub/opus.errUnsupportedFrameCode"], apart := false, laid := [("pub-carronade/pub/opus.errTooShortForTableOfContentsHeader", laid_pub_carronade_pub_opus_errTooShortForTableOfContentsHeader), ("pub-carronade/pub/opus.errUnsupportedFrameCode", laid_pub_carronade_pub_opus_errUnsupportedFrameCode), ("pub-carronade/pub/opus.errMalformedPacket", laid_pub_carronade_pub_opus_errMalformedPacket)] }
def FnPacketBackSaid : Prop := fnPacketBackRow.holds Tryd.pinned (OpenSpec.ofChange fnPacketBackSpec)

/-- ITS FALSE NEIGHBOUR: 'it returns false'. Refute it at one input. -/
def fnPacketBackWrong : ChangeSpec := { name := "fnPacketBack", fn := fun _ => fun
  | [d] => { results := [.lit (.bool false)], args := [d] }
  | _ => none }
def FnPacketBackWrongFalsely : Prop := fnPacketBackRow.holds Tryd.pinned (OpenSpec.ofChange fnPacketBackWrong)

/- THE SECOND FORM. 'bulk': how many values and letters a reading holds, each counted each time it is reached (what is shared counts as often as it is met; a slice's spare places count too). A statement '..UptoSaid' is the law's where the arguments, and the package variables that the reading takes, are together of bulk at most 1048576: NARROWER than '..Said'. Prove '..Said' where nothing that the law and all that it calls make is longer than what came in: it says more and counts as full. Else prove '..UptoSaid'. A law counts once. -/
mutual
def uptoBulk {H : Type} : DataW H → Nat
  | .lit (.string bytes) => bytes.length + 1
  | .lit _ => 1
  | .nil => 1
  | .ptr d => uptoBulk d + 1
  | .slice elems spare => uptoBulkAll elems + uptoBulkAll spare + 1
  | .agg parts => uptoBulkAll parts + 1
  | .iface _ d => uptoBulk d + 1
  | .map entries => uptoBulkEntries entries + 1
  | .held _ => 1
def uptoBulkAll {H : Type} : List (DataW H) → Nat
  | [] => 0
  | d :: r => uptoBulk d + uptoBulkAll r
def uptoBulkEntries {H : Type} : List (Lit × DataW H) → Nat
  | [] => 0
  | x :: r => uptoBulkEntry x + uptoBulkEntries r
def uptoBulkEntry {H : Type} : Lit × DataW H → Nat
  | (.string bytes, d) => bytes.length + uptoBulk d + 1
  | (_, d) => uptoBulk d + 1
 end
def uptoSmall : (H : Type) → List (DataW H) → Bool := fun _ ds => decide (uptoBulkAll ds ≤ 1048576)
def OpenSpec.upto (s : _root_.Go.ChangeSpec) : _root_.Go.OpenSpec := { _root_.Go.OpenSpec.ofChange s with cond := some uptoSmall }

/-- 'laws.FnPacketAny', WHERE WHAT IT READS IS OF BULK AT MOST 1048576: true; the input reads as it did. -/
def fnPacketAnyUptoRow : OpenClaim := { program := "ytknfakehijoogaadoor", sum := "26f7d6d73b094aafd039278f0b7c6a31f6bbaf759e6dc5c8f242dc17cd9304fe", func := "pub-carronade/laws.FnPacketAny", spec := "fnPacketAny", unfollowed := true, recurses := true, named := ["pub-carronade/pub/opus.errTooShortForTableOfContentsHeader", "pub-carronade/pub/opus.errMalformedPacket", "pub-carronade/pub/opus.errUnsupportedFrameCode"], apart := false, laid := [("pub-carronade/pub/opus.errTooShortForTableOfContentsHeader", laid_pub_carronade_pub_opus_errTooShortForTableOfContentsHeader), ("pub-carronade/pub/opus.errUnsupportedFrameCode", laid_pub_carronade_pub_opus_errUnsupportedFrameCode), ("pub-carronade/pub/opus.errMalformedPacket", laid_pub_carronade_pub_opus_errMalformedPacket)], narrowed := true }
def FnPacketAnyUptoSaid : Prop := fnPacketAnyUptoRow.holds Tryd.pinned (OpenSpec.upto fnPacketAnySpec)

/-- 'laws.FnPacketBack', WHERE WHAT IT READS IS OF BULK AT MOST 1048576: true; the input reads as it did. -/
def fnPacketBackUptoRow : OpenClaim := { program := "ytknfakehijoogaadoor", sum := "26f7d6d73b094aafd039278f0b7c6a31f6bbaf759e6dc5c8f242dc17cd9304fe", func := "pub-carronade/laws.FnPacketBack", spec := "fnPacketBack", unfollowed := true, recurses := true, named := ["pub-carronade/pub/opus.errTooShortForTableOfContentsHeader", "pub-carronade/pub/opus.errMalformedPacket", "pub-carronade/pub/opus.errUnsupportedFrameCode"], apart := false, laid := [("pub-carronade/pub/opus.errTooShortForTableOfContentsHeader", laid_pub_carronade_pub_opus_errTooShortForTableOfContentsHeader), ("pub-carronade/pub/opus.errUnsupportedFrameCode", laid_pub_carronade_pub_opus_errUnsupportedFrameCode), ("pub-carronade/pub/opus.errMalformedPacket", laid_pub_carronade_pub_opus_errMalformedPacket)], narrowed := true }
def FnPacketBackUptoSaid : Prop := fnPacketBackUptoRow.holds Tryd.pinned (OpenSpec.upto fnPacketBackSpec)

end Rows
end Go.Proofs.YtknfakehijoogaaDoor

/-
  No cell of these rows narrows 'for every input' (looked for: loops, veiled, ifaces, maps, wideKeys, modest, calm, conditions, laid).
  DERIVED. THE GIVEN ROWS OF THIS SEAT. 8 by the template 'for every input the law returns true; each argument reads behind the call as it read before'; 0 by the template 'total and deterministic' (their statements: YtkomikpfnogjcaaTotals.lean).
  GIVEN WITH THE SEED: the statements are not yours to turn. If you find one false, say at which input.
  Laid BY PROGRAM, IN A SANDBOX (cutbox-rows.mjs): the forced cells as the released guide's own fill.sh prints them over the translation 7b44a171a89420b9… (all of the seat's roots in one cut). By AI agents, Wed Nov 11 2026. No macro, syntax, notation, axiom, sorry.
-/
import Derived.Test.YtkomikpfnogjcaaChecked
import GoSem.Claim
import GoSem.ClaimJoined
import GoSem.ClaimMapViews
import Derived.JoinedTies
import Derived.KernelRfl
namespace Go.Proofs.Ytkomikpfnogjcaa
/- THE CELL 'sum', in the pinned program and in every row, IS THE sha256 OF THE DUMP (.gsa) THAT YtkomikpfnogjcaaProg.lean LOADS. Nothing in Lean hashes anything: it is a label: what it is worth is what the hold of that sum in a sandbox is worth. -/
noncomputable def Try.pinned : Pinned := { name := "ytkomikpfnogjcaa", sum := "7b44a171a89420b9ddb783973b728cab6cbfd056831b9459b0df9ab23b399602", checked := Try.checked }
namespace Rows
def none {H : Type} : Left H := { results := [], args := [] }

/-- 'laws.FnRangeAny': WHATEVER THE INPUT: true; the input reads as it did. -/
def fnRangeAnySpec : ChangeSpec := { name := "fnRangeAny", fn := fun _ => fun
  | [d1, d2] => { results := [.lit (.bool true)], args := [d1, d2] }
  | _ => none }
def fnRangeAnyRow : OpenClaim := { program := "ytkomikpfnogjcaa", sum := "7b44a171a89420b9ddb783973b728cab6cbfd056831b9459b0df9ab23b399602", func := "pub-carronade/laws.FnRangeAny", spec := "fnRangeAny", unfollowed := true, recurses := true, apart := false }
def FnRangeAnySaid : Prop := fnRangeAnyRow.holds Try.pinned (OpenSpec.ofChange fnRangeAnySpec)

/-- ITS FALSE NEIGHBOUR: 'it returns false'. Refute it at one input. -/
def fnRangeAnyWrong : ChangeSpec := { name := "fnRangeAny", fn := fun _ => fun
  | [d1, d2] => { results := [.lit (.bool false)], args := [d1, d2] }
  | _ => none }
def FnRangeAnyWrongFalsely : Prop := fnRangeAnyRow.holds Try.pinned (OpenSpec.ofChange fnRangeAnyWrong)

/-- 'laws.FnRangeBack': WHATEVER THE INPUT: true; the input reads as it did. -/
def fnRangeBackSpec : ChangeSpec := { name := "fnRangeBack", fn := fun _ => fun
  | [d] => { results := [.lit (.bool true)], args := [d] }
  | _ => none }
def fnRangeBackRow : OpenClaim := { program := "ytkomikpfnogjcaa", sum := "7b44a171a89420b9ddb783973b728cab6cbfd056831b9459b0df9ab23b399602", func := "pub-carronade/laws.FnRangeBack", spec := "fnRangeBack", unfollowed := true, recurses := true, apart := false }
def FnRangeBackSaid : Prop := fnRangeBackRow.holds Try.pinned (OpenSpec.ofChange fnRangeBackSpec)

/-- ITS FALSE NEIGHBOUR: 'it returns false'. Refute it at one input. -/
def fnRangeBackWrong : ChangeSpec := { name := "fnRangeBack", fn := fun _ => fun
  | [d] => { results := [.lit (.bool false)], args := [d] }
  | _ => none }
def FnRangeBackWrongFalsely : Prop := fnRangeBackRow.holds Try.pinned (OpenSpec.ofChange fnRangeBackWrong)

/-- 'laws.FnRangePrefix': WHATEVER THE INPUT: true; the input reads as it did. -/
def fnRangePrefixSpec : ChangeSpec := { name := "fnRangePrefix", fn := fun _ => fun
  | [d1, d2, d3] => { results := [.lit (.bool true)], args := [d1, d2, d3] }
  | _ => none }
def fnRangePrefixRow : OpenClaim := { program := "ytkomikpfnogjcaa", sum := "7b44a171a89420b9ddb783973b728cab6cbfd056831b9459b0df9ab23b399602", func := "pub-carronade/laws.FnRangePrefix", spec := "fnRangePrefix", unfollowed := true, recurses := true, apart := false }
def FnRangePrefixSaid : Prop := fnRangePrefixRow.holds Try.pinned (OpenSpec.ofChange fnRangePrefixSpec)

/-- ITS FALSE NEIGHBOUR: 'it returns false'. Refute it at one input. -/
def fnRangePrefixWrong : ChangeSpec := { name := "fnRangePrefix", fn := fun _ => fun
  | [d1, d2, d3] => { results := [.lit (.bool false)], args := [d1, d2, d3] }
  | _ => none }
def FnRangePrefixWrongFalsely : Prop := fnRangePrefixRow.holds Try.pinned (OpenSpec.ofChange fnRangePrefixWrong)

/-- 'laws.FnRangeRaw': WHATEVER THE INPUT: true; the input reads as it did. -/
def fnRangeRawSpec : ChangeSpec := { name := "fnRangeRaw", fn := fun _ => fun
  | [d1, d2, d3] => { results := [.lit (.bool true)], args := [d1, d2, d3] }
  | _ => none }
def fnRangeRawRow : OpenClaim := { program := "ytkomikpfnogjcaa", sum := "7b44a171a89420b9ddb783973b728cab6cbfd056831b9459b0df9ab23b399602", func := "pub-carronade/laws.FnRangeRaw", spec := "fnRangeRaw", unfollowed := true, recurses := true, apart := false }
def FnRangeRawSaid : Prop := fnRangeRawRow.holds Try.pinned (OpenSpec.ofChange fnRangeRawSpec)

/-- ITS FALSE NEIGHBOUR: 'it returns false'. Refute it at one input. -/
def fnRangeRawWrong : ChangeSpec := { name := "fnRangeRaw", fn := fun _ => fun
  | [d1, d2, d3] => { results := [.lit (.bool false)], args := [d1, d2, d3] }
  | _ => none }
def FnRangeRawWrongFalsely : Prop := fnRangeRawRow.holds Try.pinned (OpenSpec.ofChange fnRangeRawWrong)

/-- 'laws.FnRangeSame': WHATEVER THE INPUT: true; the input reads as it did. -/
def fnRangeSameSpec : ChangeSpec := { name := "fnRangeSame", fn := fun _ => fun
  | [d] => { results := [.lit (.bool true)], args := [d] }
  | _ => none }
def fnRangeSameRow : OpenClaim := { program := "ytkomikpfnogjcaa", sum := "7b44a171a89420b9ddb783973b728cab6cbfd056831b9459b0df9ab23b399602", func := "pub-carronade/laws.FnRangeSame", spec := "fnRangeSame", unfollowed := true, recurses := true, apart := false }
def FnRangeSameSaid : Prop := fnRangeSameRow.holds Try.pinned (OpenSpec.ofChange fnRangeSameSpec)

/-- ITS FALSE NEIGHBOUR: 'it returns false'. Refute it at one input. -/
def fnRangeSameWrong : ChangeSpec := { name := "fnRangeSame", fn := fun _ => fun
  | [d] => { results := [.lit (.bool false)], args := [d] }
  | _ => none }
def FnRangeSameWrongFalsely : Prop := fnRangeSameRow.holds Try.pinned (OpenSpec.ofChange fnRangeSameWrong)

/-- 'laws.FnRangeTell': WHATEVER THE INPUT: true; the input reads as it did. -/
def fnRangeTellSpec : ChangeSpec := { name := "fnRangeTell", fn := fun _ => fun
  | [d1, d2] => { results := [.lit (.bool true)], args := [d1, d2] }
  | _ => none }
def fnRangeTellRow : OpenClaim := { program := "ytkomikpfnogjcaa", sum := "7b44a171a89420b9ddb783973b728cab6cbfd056831b9459b0df9ab23b399602", func := "pub-carronade/laws.FnRangeTell", spec := "fnRangeTell", unfollowed := true, recurses := true, apart := false }
def FnRangeTellSaid : Prop := fnRangeTellRow.holds Try.pinned (OpenSpec.ofChange fnRangeTellSpec)

/-- ITS FALSE NEIGHBOUR: 'it returns false'. Refute it at one input. -/
def fnRangeTellWrong : ChangeSpec := { name := "fnRangeTell", fn := fun _ => fun
  | [d1, d2] => { results := [.lit (.bool false)], args := [d1, d2] }
  | _ => none }
def FnRangeTellWrongFalsely : Prop := fnRangeTellRow.holds Try.pinned (OpenSpec.ofChange fnRangeTellWrong)

/-- 'laws.FnRangeWhole': WHATEVER THE INPUT: true; the input reads as it did. -/
def fnRangeWholeSpec : ChangeSpec := { name := "fnRangeWhole", fn := fun _ => fun
  | [d] => { results := [.lit (.bool true)], args := [d] }
  | _ => none }
def fnRangeWholeRow : OpenClaim := { program := "ytkomikpfnogjcaa", sum := "7b44a171a89420b9ddb783973b728cab6cbfd056831b9459b0df9ab23b399602", func := "pub-carronade/laws.FnRangeWhole", spec := "fnRangeWhole", unfollowed := true, recurses := true, apart := false }
def FnRangeWholeSaid : Prop := fnRangeWholeRow.holds Try.pinned (OpenSpec.ofChange fnRangeWholeSpec)

/-- ITS FALSE NEIGHBOUR: 'it returns false'. Refute it at one input. -/
def fnRangeWholeWrong : ChangeSpec := { name := "fnRangeWhole", fn := fun _ => fun
  | [d] => { results := [.lit (.bool false)], args := [d] }
  | _ => none }
def FnRangeWholeWrongFalsely : Prop := fnRangeWholeRow.holds Try.pinned (OpenSpec.ofChange fnRangeWholeWrong)

/-- 'laws.FnPulseCount': WHATEVER THE INPUT: true; the input reads as it did. -/
def fnPulseCountSpec : ChangeSpec := { name := "fnPulseCount", fn := fun _ => fun
  | [d1, d2] => { results := [.lit (.bool true)], args := [d1, d2] }
  | _ => none }
def fnPulseCountRow : OpenClaim := { program := "ytkomikpfnogjcaa", sum := "7b44a171a89420b9ddb783973b728cab6cbfd056831b9459b0df9ab23b399602", func := "pub-carronade/laws.FnPulseCount", spec := "fnPulseCount", unfollowed := true, recurses := true, apart := false }
def FnPulseCountSaid : Prop := fnPulseCountRow.holds Try.pinned (OpenSpec.ofChange fnPulseCountSpec)

/-- ITS FALSE NEIGHBOUR: 'it returns false'. Refute it at one input. -/
def fnPulseCountWrong : ChangeSpec := { name := "fnPulseCount", fn := fun _ => fun
  | [d1, d2] => { results := [.lit (.bool false)], args := [d1, d2] }
  | _ => none }
def FnPulseCountWrongFalsely : Prop := fnPulseCountRow.holds Try.pinned (OpenSpec.ofChange fnPulseCountWrong)

/- THE SECOND FORM. 'bulk': how many values and letters a reading holds, each counted each time it is reached (what is shared counts as often as it is met; a slice's spare places count too). A statement '..UptoSaid' is the law's where the arguments, and the package variables that the reading takes, are together of bulk at most 1048576: NARROWER than '..Said'. Prove '..Said' where nothing that the law and all that it calls make is longer than what came in: it says more and counts as full. Else prove '..UptoSaid'. A law counts once. -/
mutual
def uptoBulk {H : Type} : DataW H → Nat
  | .lit (.string bytes) => bytes.length + 1
  | .lit _ => 1
  | .nil => 1
  | .ptr d => uptoBulk d + 1
  | .slice elems spare => uptoBulkAll elems + uptoBulkAll spare + 1
  | .agg parts => uptoBulkAll parts + 1
  | .iface _ d => uptoBulk d + 1
  | .map entries => uptoBulkEntries entries + 1
  | .held _ => 1
def uptoBulkAll {H : Type} : List (DataW H) → Nat
  | [] => 0
  | d :: r => uptoBulk d + uptoBulkAll r
def uptoBulkEntries {H : Type} : List (Lit × DataW H) → Nat
  | [] => 0
  | x :: r => uptoBulkEntry x + uptoBulkEntries r
def uptoBulkEntry {H : Type} : Lit × DataW H → Nat
  | (.string bytes, d) => bytes.length + uptoBulk d + 1
  | (_, d) => uptoBulk d + 1
 end
def uptoSmall : (H : Type) → List (DataW H) → Bool := fun _ ds => decide (uptoBulkAll ds ≤ 1048576)
def OpenSpec.upto (s : _root_.Go.ChangeSpec) : _root_.Go.OpenSpec := { _root_.Go.OpenSpec.ofChange s with cond := some uptoSmall }

/-- 'laws.FnRangeAny', WHERE WHAT IT READS IS OF BULK AT MOST 1048576: true; the input reads as it did. -/
def fnRangeAnyUptoRow : OpenClaim := { program := "ytkomikpfnogjcaa", sum := "7b44a171a89420b9ddb783973b728cab6cbfd056831b9459b0df9ab23b399602", func := "pub-carronade/laws.FnRangeAny", spec := "fnRangeAny", unfollowed := true, recurses := true, apart := false, narrowed := true }
def FnRangeAnyUptoSaid : Prop := fnRangeAnyUptoRow.holds Try.pinned (OpenSpec.upto fnRangeAnySpec)

/-- 'laws.FnRangeBack', WHERE WHAT IT READS IS OF BULK AT MOST 1048576: true; the input reads as it did. -/
def fnRangeBackUptoRow : OpenClaim := { program := "ytkomikpfnogjcaa", sum := "7b44a171a89420b9ddb783973b728cab6cbfd056831b9459b0df9ab23b399602", func := "pub-carronade/laws.FnRangeBack", spec := "fnRangeBack", unfollowed := true, recurses := true, apart := false, narrowed := true }
def FnRangeBackUptoSaid : Prop := fnRangeBackUptoRow.holds Try.pinned (OpenSpec.upto fnRangeBackSpec)

/-- 'laws.FnRangePrefix', WHERE WHAT IT READS IS OF BULK AT MOST 1048576: true; the input reads as it did. -/
def fnRangePrefixUptoRow : OpenClaim := { program := "ytkomikpfnogjcaa", sum := "7b44a171a89420b9ddb783973b728cab6cbfd056831b9459b0df9ab23b399602", func := "pub-carronade/laws.FnRangePrefix", spec := "fnRangePrefix", unfollowed := true, recurses := true, apart := false, narrowed := true }
def FnRangePrefixUptoSaid : Prop := fnRangePrefixUptoRow.holds Try.pinned (OpenSpec.upto fnRangePrefixSpec)

/-- 'laws.FnRangeRaw', WHERE WHAT IT READS IS OF BULK AT MOST 1048576: true; the input reads as it did. -/
def fnRangeRawUptoRow : OpenClaim := { program := "ytkomikpfnogjcaa", sum := "7b44a171a89420b9ddb783973b728cab6cbfd056831b9459b0df9ab23b399602", func := "pub-carronade/laws.FnRangeRaw", spec := "fnRangeRaw", unfollowed := true, recurses := true, apart := false, narrowed := true }
def FnRangeRawUptoSaid : Prop := fnRangeRawUptoRow.holds Try.pinned (OpenSpec.upto fnRangeRawSpec)

/-- 'laws.FnRangeSame', WHERE WHAT IT READS IS OF BULK AT MOST 1048576: true; the input reads as it did. -/
def fnRangeSameUptoRow : OpenClaim := { program := "ytkomikpfnogjcaa", sum := "7b44a171a89420b9ddb783973b728cab6cbfd056831b9459b0df9ab23b399602", func := "pub-carronade/laws.FnRangeSame", spec := "fnRangeSame", unfollowed := true, recurses := true, apart := false, narrowed := true }
def FnRangeSameUptoSaid : Prop := fnRangeSameUptoRow.holds Try.pinned (OpenSpec.upto fnRangeSameSpec)

/-- 'laws.FnRangeTell', WHERE WHAT IT READS IS OF BULK AT MOST 1048576: true; the input reads as it did. -/
def fnRangeTellUptoRow : OpenClaim := { program := "ytkomikpfnogjcaa", sum := "7b44a171a89420b9ddb783973b728cab6cbfd056831b9459b0df9ab23b399602", func := "pub-carronade/laws.FnRangeTell", spec := "fnRangeTell", unfollowed := true, recurses := true, apart := false, narrowed := true }
def FnRangeTellUptoSaid : Prop := fnRangeTellUptoRow.holds Try.pinned (OpenSpec.upto fnRangeTellSpec)

/-- 'laws.FnRangeWhole', WHERE WHAT IT READS IS OF BULK AT MOST 1048576: true; the input reads as it did. -/
def fnRangeWholeUptoRow : OpenClaim := { program := "ytkomikpfnogjcaa", sum := "7b44a171a89420b9ddb783973b728cab6cbfd056831b9459b0df9ab23b399602", func := "pub-carronade/laws.FnRangeWhole", spec := "fnRangeWhole", unfollowed := true, recurses := true, apart := false, narrowed := true }
def FnRangeWholeUptoSaid : Prop := fnRangeWholeUptoRow.holds Try.pinned (OpenSpec.upto fnRangeWholeSpec)

/-- 'laws.FnPulseCount', WHERE WHAT IT READS IS OF BULK AT MOST 1048576: true; the input reads as it did. -/
def fnPulseCountUptoRow : OpenClaim := { program := "ytkomikpfnogjcaa", sum := "7b44a171a89420b9ddb783973b728cab6cbfd056831b9459b0df9ab23b399602", func := "pub-carronade/laws.FnPulseCount", spec := "fnPulseCount", unfollowed := true, recurses := true, apart := false, narrowed := true }
def FnPulseCountUptoSaid : Prop := fnPulseCountUptoRow.holds Try.pinned (OpenSpec.upto fnPulseCountSpec)

end Rows
end Go.Proofs.Ytkomikpfnogjcaa

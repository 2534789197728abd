/-
  No cell of these rows narrows 'for every input' (looked for: loops, veiled, ifaces, maps, wideKeys, modest, calm, conditions, laid).
  DERIVED. THE GIVEN ROWS OF THIS SEAT. 17 by the template 'for every input the law returns true; each argument reads behind the call as it read before'; 0 by the template 'total and deterministic' (their statements: YtjogehjgoemdpaaTotals.lean).
  GIVEN WITH THE SEED: the statements are not yours to turn. If you find one false, say at which input.
  Laid BY PROGRAM, IN A SANDBOX (cutbox-rows.mjs): the forced cells as the released guide's own fill.sh prints them over the translation d09e3d878a7217ba… (all of the seat's roots in one cut). By AI agents, Wed Nov 11 2026. No macro, syntax, notation, axiom, sorry.
-/
import Derived.Test.YtjogehjgoemdpaaChecked
import GoSem.Claim
import GoSem.ClaimJoined
import GoSem.ClaimMapViews
import Derived.JoinedTies
import Derived.KernelRfl
namespace Go.Proofs.Ytjogehjgoemdpaa
/- THE CELL 'sum', in the pinned program and in every row, IS THE sha256 OF THE DUMP (.gsa) THAT YtjogehjgoemdpaaProg.lean LOADS. Nothing in Lean hashes anything: it is a label: what it is worth is what the hold of that sum in a sandbox is worth. -/
noncomputable def Try.pinned : Pinned := { name := "ytjogehjgoemdpaa", sum := "d09e3d878a7217ba64695e074a2c449e28b6d7a8d615bd1276019f450a4ae4a7", checked := Try.checked }
namespace Rows
def none {H : Type} : Left H := { results := [], args := [] }

/-- 'laws.FnGet': WHATEVER THE INPUT: true; the input reads as it did. -/
def fnGetSpec : ChangeSpec := { name := "fnGet", fn := fun _ => fun
  | [d1, d2] => { results := [.lit (.bool true)], args := [d1, d2] }
  | _ => none }
def fnGetRow : OpenClaim := { program := "ytjogehjgoemdpaa", sum := "d09e3d878a7217ba64695e074a2c449e28b6d7a8d615bd1276019f450a4ae4a7", func := "loop.example/pub-bitvectors/laws.FnGet", spec := "fnGet", apart := false }
def FnGetSaid : Prop := fnGetRow.holds Try.pinned (OpenSpec.ofChange fnGetSpec)

/-- ITS FALSE NEIGHBOUR: 'it returns false'. Refute it at one input. -/
def fnGetWrong : ChangeSpec := { name := "fnGet", fn := fun _ => fun
  | [d1, d2] => { results := [.lit (.bool false)], args := [d1, d2] }
  | _ => none }
def FnGetWrongFalsely : Prop := fnGetRow.holds Try.pinned (OpenSpec.ofChange fnGetWrong)

/-- 'laws.FnIsEmpty': WHATEVER THE INPUT: true; the input reads as it did. -/
def fnIsEmptySpec : ChangeSpec := { name := "fnIsEmpty", fn := fun _ => fun
  | [d] => { results := [.lit (.bool true)], args := [d] }
  | _ => none }
def fnIsEmptyRow : OpenClaim := { program := "ytjogehjgoemdpaa", sum := "d09e3d878a7217ba64695e074a2c449e28b6d7a8d615bd1276019f450a4ae4a7", func := "loop.example/pub-bitvectors/laws.FnIsEmpty", spec := "fnIsEmpty", apart := false }
def FnIsEmptySaid : Prop := fnIsEmptyRow.holds Try.pinned (OpenSpec.ofChange fnIsEmptySpec)

/-- ITS FALSE NEIGHBOUR: 'it returns false'. Refute it at one input. -/
def fnIsEmptyWrong : ChangeSpec := { name := "fnIsEmpty", fn := fun _ => fun
  | [d] => { results := [.lit (.bool false)], args := [d] }
  | _ => none }
def FnIsEmptyWrongFalsely : Prop := fnIsEmptyRow.holds Try.pinned (OpenSpec.ofChange fnIsEmptyWrong)

/-- 'laws.FnCount': WHATEVER THE INPUT: true; the input reads as it did. -/
def fnCountSpec : ChangeSpec := { name := "fnCount", fn := fun _ => fun
  | [d] => { results := [.lit (.bool true)], args := [d] }
  | _ => none }
def fnCountRow : OpenClaim := { program := "ytjogehjgoemdpaa", sum := "d09e3d878a7217ba64695e074a2c449e28b6d7a8d615bd1276019f450a4ae4a7", func := "loop.example/pub-bitvectors/laws.FnCount", spec := "fnCount", apart := false }
def FnCountSaid : Prop := fnCountRow.holds Try.pinned (OpenSpec.ofChange fnCountSpec)

/-- ITS FALSE NEIGHBOUR: 'it returns false'. Refute it at one input. -/
def fnCountWrong : ChangeSpec := { name := "fnCount", fn := fun _ => fun
  | [d] => { results := [.lit (.bool false)], args := [d] }
  | _ => none }
def FnCountWrongFalsely : Prop := fnCountRow.holds Try.pinned (OpenSpec.ofChange fnCountWrong)

/-- 'laws.FnEq': WHATEVER THE INPUT: true; the input reads as it did. -/
def fnEqSpec : ChangeSpec := { name := "fnEq", fn := fun _ => fun
  | [d1, d2] => { results := [.lit (.bool true)], args := [d1, d2] }
  | _ => none }
def fnEqRow : OpenClaim := { program := "ytjogehjgoemdpaa", sum := "d09e3d878a7217ba64695e074a2c449e28b6d7a8d615bd1276019f450a4ae4a7", func := "loop.example/pub-bitvectors/laws.FnEq", spec := "fnEq", apart := false }
def FnEqSaid : Prop := fnEqRow.holds Try.pinned (OpenSpec.ofChange fnEqSpec)

/-- ITS FALSE NEIGHBOUR: 'it returns false'. Refute it at one input. -/
def fnEqWrong : ChangeSpec := { name := "fnEq", fn := fun _ => fun
  | [d1, d2] => { results := [.lit (.bool false)], args := [d1, d2] }
  | _ => none }
def FnEqWrongFalsely : Prop := fnEqRow.holds Try.pinned (OpenSpec.ofChange fnEqWrong)

/-- 'laws.FnSet': WHATEVER THE INPUT: true; the input reads as it did. -/
def fnSetSpec : ChangeSpec := { name := "fnSet", fn := fun _ => fun
  | [d1, d2] => { results := [.lit (.bool true)], args := [d1, d2] }
  | _ => none }
def fnSetRow : OpenClaim := { program := "ytjogehjgoemdpaa", sum := "d09e3d878a7217ba64695e074a2c449e28b6d7a8d615bd1276019f450a4ae4a7", func := "loop.example/pub-bitvectors/laws.FnSet", spec := "fnSet", apart := false }
def FnSetSaid : Prop := fnSetRow.holds Try.pinned (OpenSpec.ofChange fnSetSpec)

/-- ITS FALSE NEIGHBOUR: 'it returns false'. Refute it at one input. -/
def fnSetWrong : ChangeSpec := { name := "fnSet", fn := fun _ => fun
  | [d1, d2] => { results := [.lit (.bool false)], args := [d1, d2] }
  | _ => none }
def FnSetWrongFalsely : Prop := fnSetRow.holds Try.pinned (OpenSpec.ofChange fnSetWrong)

/-- 'laws.FnCopy': WHATEVER THE INPUT: true; the input reads as it did. -/
def fnCopySpec : ChangeSpec := { name := "fnCopy", fn := fun _ => fun
  | [d1, d2] => { results := [.lit (.bool true)], args := [d1, d2] }
  | _ => none }
def fnCopyRow : OpenClaim := { program := "ytjogehjgoemdpaa", sum := "d09e3d878a7217ba64695e074a2c449e28b6d7a8d615bd1276019f450a4ae4a7", func := "loop.example/pub-bitvectors/laws.FnCopy", spec := "fnCopy", apart := false }
def FnCopySaid : Prop := fnCopyRow.holds Try.pinned (OpenSpec.ofChange fnCopySpec)

/-- ITS FALSE NEIGHBOUR: 'it returns false'. Refute it at one input. -/
def fnCopyWrong : ChangeSpec := { name := "fnCopy", fn := fun _ => fun
  | [d1, d2] => { results := [.lit (.bool false)], args := [d1, d2] }
  | _ => none }
def FnCopyWrongFalsely : Prop := fnCopyRow.holds Try.pinned (OpenSpec.ofChange fnCopyWrong)

/-- 'laws.FnAnd': WHATEVER THE INPUT: true; the input reads as it did. -/
def fnAndSpec : ChangeSpec := { name := "fnAnd", fn := fun _ => fun
  | [d1, d2] => { results := [.lit (.bool true)], args := [d1, d2] }
  | _ => none }
def fnAndRow : OpenClaim := { program := "ytjogehjgoemdpaa", sum := "d09e3d878a7217ba64695e074a2c449e28b6d7a8d615bd1276019f450a4ae4a7", func := "loop.example/pub-bitvectors/laws.FnAnd", spec := "fnAnd", apart := false }
def FnAndSaid : Prop := fnAndRow.holds Try.pinned (OpenSpec.ofChange fnAndSpec)

/-- ITS FALSE NEIGHBOUR: 'it returns false'. Refute it at one input. -/
def fnAndWrong : ChangeSpec := { name := "fnAnd", fn := fun _ => fun
  | [d1, d2] => { results := [.lit (.bool false)], args := [d1, d2] }
  | _ => none }
def FnAndWrongFalsely : Prop := fnAndRow.holds Try.pinned (OpenSpec.ofChange fnAndWrong)

/-- 'laws.FnAndNot': WHATEVER THE INPUT: true; the input reads as it did. -/
def fnAndNotSpec : ChangeSpec := { name := "fnAndNot", fn := fun _ => fun
  | [d1, d2] => { results := [.lit (.bool true)], args := [d1, d2] }
  | _ => none }
def fnAndNotRow : OpenClaim := { program := "ytjogehjgoemdpaa", sum := "d09e3d878a7217ba64695e074a2c449e28b6d7a8d615bd1276019f450a4ae4a7", func := "loop.example/pub-bitvectors/laws.FnAndNot", spec := "fnAndNot", apart := false }
def FnAndNotSaid : Prop := fnAndNotRow.holds Try.pinned (OpenSpec.ofChange fnAndNotSpec)

/-- ITS FALSE NEIGHBOUR: 'it returns false'. Refute it at one input. -/
def fnAndNotWrong : ChangeSpec := { name := "fnAndNot", fn := fun _ => fun
  | [d1, d2] => { results := [.lit (.bool false)], args := [d1, d2] }
  | _ => none }
def FnAndNotWrongFalsely : Prop := fnAndNotRow.holds Try.pinned (OpenSpec.ofChange fnAndNotWrong)

/-- 'laws.FnOr': WHATEVER THE INPUT: true; the input reads as it did. -/
def fnOrSpec : ChangeSpec := { name := "fnOr", fn := fun _ => fun
  | [d1, d2] => { results := [.lit (.bool true)], args := [d1, d2] }
  | _ => none }
def fnOrRow : OpenClaim := { program := "ytjogehjgoemdpaa", sum := "d09e3d878a7217ba64695e074a2c449e28b6d7a8d615bd1276019f450a4ae4a7", func := "loop.example/pub-bitvectors/laws.FnOr", spec := "fnOr", apart := false }
def FnOrSaid : Prop := fnOrRow.holds Try.pinned (OpenSpec.ofChange fnOrSpec)

/-- ITS FALSE NEIGHBOUR: 'it returns false'. Refute it at one input. -/
def fnOrWrong : ChangeSpec := { name := "fnOr", fn := fun _ => fun
  | [d1, d2] => { results := [.lit (.bool false)], args := [d1, d2] }
  | _ => none }
def FnOrWrongFalsely : Prop := fnOrRow.holds Try.pinned (OpenSpec.ofChange fnOrWrong)

/-- 'laws.FnClear': WHATEVER THE INPUT: true; the input reads as it did. -/
def fnClearSpec : ChangeSpec := { name := "fnClear", fn := fun _ => fun
  | [d] => { results := [.lit (.bool true)], args := [d] }
  | _ => none }
def fnClearRow : OpenClaim := { program := "ytjogehjgoemdpaa", sum := "d09e3d878a7217ba64695e074a2c449e28b6d7a8d615bd1276019f450a4ae4a7", func := "loop.example/pub-bitvectors/laws.FnClear", spec := "fnClear", apart := false }
def FnClearSaid : Prop := fnClearRow.holds Try.pinned (OpenSpec.ofChange fnClearSpec)

/-- ITS FALSE NEIGHBOUR: 'it returns false'. Refute it at one input. -/
def fnClearWrong : ChangeSpec := { name := "fnClear", fn := fun _ => fun
  | [d] => { results := [.lit (.bool false)], args := [d] }
  | _ => none }
def FnClearWrongFalsely : Prop := fnClearRow.holds Try.pinned (OpenSpec.ofChange fnClearWrong)

/-- 'laws.FnNot': WHATEVER THE INPUT: true; the input reads as it did. -/
def fnNotSpec : ChangeSpec := { name := "fnNot", fn := fun _ => fun
  | [d] => { results := [.lit (.bool true)], args := [d] }
  | _ => none }
def fnNotRow : OpenClaim := { program := "ytjogehjgoemdpaa", sum := "d09e3d878a7217ba64695e074a2c449e28b6d7a8d615bd1276019f450a4ae4a7", func := "loop.example/pub-bitvectors/laws.FnNot", spec := "fnNot", apart := false }
def FnNotSaid : Prop := fnNotRow.holds Try.pinned (OpenSpec.ofChange fnNotSpec)

/-- ITS FALSE NEIGHBOUR: 'it returns false'. Refute it at one input. -/
def fnNotWrong : ChangeSpec := { name := "fnNot", fn := fun _ => fun
  | [d] => { results := [.lit (.bool false)], args := [d] }
  | _ => none }
def FnNotWrongFalsely : Prop := fnNotRow.holds Try.pinned (OpenSpec.ofChange fnNotWrong)

/-- 'laws.FnNotTwice': WHATEVER THE INPUT: true; the input reads as it did. -/
def fnNotTwiceSpec : ChangeSpec := { name := "fnNotTwice", fn := fun _ => fun
  | [d] => { results := [.lit (.bool true)], args := [d] }
  | _ => none }
def fnNotTwiceRow : OpenClaim := { program := "ytjogehjgoemdpaa", sum := "d09e3d878a7217ba64695e074a2c449e28b6d7a8d615bd1276019f450a4ae4a7", func := "loop.example/pub-bitvectors/laws.FnNotTwice", spec := "fnNotTwice", apart := false }
def FnNotTwiceSaid : Prop := fnNotTwiceRow.holds Try.pinned (OpenSpec.ofChange fnNotTwiceSpec)

/-- ITS FALSE NEIGHBOUR: 'it returns false'. Refute it at one input. -/
def fnNotTwiceWrong : ChangeSpec := { name := "fnNotTwice", fn := fun _ => fun
  | [d] => { results := [.lit (.bool false)], args := [d] }
  | _ => none }
def FnNotTwiceWrongFalsely : Prop := fnNotTwiceRow.holds Try.pinned (OpenSpec.ofChange fnNotTwiceWrong)

/-- 'laws.FnUnset': WHATEVER THE INPUT: true; the input reads as it did. -/
def fnUnsetSpec : ChangeSpec := { name := "fnUnset", fn := fun _ => fun
  | [d1, d2] => { results := [.lit (.bool true)], args := [d1, d2] }
  | _ => none }
def fnUnsetRow : OpenClaim := { program := "ytjogehjgoemdpaa", sum := "d09e3d878a7217ba64695e074a2c449e28b6d7a8d615bd1276019f450a4ae4a7", func := "loop.example/pub-bitvectors/laws.FnUnset", spec := "fnUnset", apart := false }
def FnUnsetSaid : Prop := fnUnsetRow.holds Try.pinned (OpenSpec.ofChange fnUnsetSpec)

/-- ITS FALSE NEIGHBOUR: 'it returns false'. Refute it at one input. -/
def fnUnsetWrong : ChangeSpec := { name := "fnUnset", fn := fun _ => fun
  | [d1, d2] => { results := [.lit (.bool false)], args := [d1, d2] }
  | _ => none }
def FnUnsetWrongFalsely : Prop := fnUnsetRow.holds Try.pinned (OpenSpec.ofChange fnUnsetWrong)

/-- 'laws.FnCountBoth': WHATEVER THE INPUT: true; the input reads as it did. -/
def fnCountBothSpec : ChangeSpec := { name := "fnCountBoth", fn := fun _ => fun
  | [d1, d2] => { results := [.lit (.bool true)], args := [d1, d2] }
  | _ => none }
def fnCountBothRow : OpenClaim := { program := "ytjogehjgoemdpaa", sum := "d09e3d878a7217ba64695e074a2c449e28b6d7a8d615bd1276019f450a4ae4a7", func := "loop.example/pub-bitvectors/laws.FnCountBoth", spec := "fnCountBoth", apart := false }
def FnCountBothSaid : Prop := fnCountBothRow.holds Try.pinned (OpenSpec.ofChange fnCountBothSpec)

/-- ITS FALSE NEIGHBOUR: 'it returns false'. Refute it at one input. -/
def fnCountBothWrong : ChangeSpec := { name := "fnCountBoth", fn := fun _ => fun
  | [d1, d2] => { results := [.lit (.bool false)], args := [d1, d2] }
  | _ => none }
def FnCountBothWrongFalsely : Prop := fnCountBothRow.holds Try.pinned (OpenSpec.ofChange fnCountBothWrong)

/-- 'laws.FnMorgan': WHATEVER THE INPUT: true; the input reads as it did. -/
def fnMorganSpec : ChangeSpec := { name := "fnMorgan", fn := fun _ => fun
  | [d1, d2] => { results := [.lit (.bool true)], args := [d1, d2] }
  | _ => none }
def fnMorganRow : OpenClaim := { program := "ytjogehjgoemdpaa", sum := "d09e3d878a7217ba64695e074a2c449e28b6d7a8d615bd1276019f450a4ae4a7", func := "loop.example/pub-bitvectors/laws.FnMorgan", spec := "fnMorgan", apart := false }
def FnMorganSaid : Prop := fnMorganRow.holds Try.pinned (OpenSpec.ofChange fnMorganSpec)

/-- ITS FALSE NEIGHBOUR: 'it returns false'. Refute it at one input. -/
def fnMorganWrong : ChangeSpec := { name := "fnMorgan", fn := fun _ => fun
  | [d1, d2] => { results := [.lit (.bool false)], args := [d1, d2] }
  | _ => none }
def FnMorganWrongFalsely : Prop := fnMorganRow.holds Try.pinned (OpenSpec.ofChange fnMorganWrong)

/-- 'laws.FnApart': WHATEVER THE INPUT: true; the input reads as it did. -/
def fnApartSpec : ChangeSpec := { name := "fnApart", fn := fun _ => fun
  | [d1, d2] => { results := [.lit (.bool true)], args := [d1, d2] }
  | _ => none }
def fnApartRow : OpenClaim := { program := "ytjogehjgoemdpaa", sum := "d09e3d878a7217ba64695e074a2c449e28b6d7a8d615bd1276019f450a4ae4a7", func := "loop.example/pub-bitvectors/laws.FnApart", spec := "fnApart", apart := false }
def FnApartSaid : Prop := fnApartRow.holds Try.pinned (OpenSpec.ofChange fnApartSpec)

/-- ITS FALSE NEIGHBOUR: 'it returns false'. Refute it at one input. -/
def fnApartWrong : ChangeSpec := { name := "fnApart", fn := fun _ => fun
  | [d1, d2] => { results := [.lit (.bool false)], args := [d1, d2] }
  | _ => none }
def FnApartWrongFalsely : Prop := fnApartRow.holds Try.pinned (OpenSpec.ofChange fnApartWrong)

/-- 'laws.FnRun': WHATEVER THE INPUT: true; the input reads as it did. -/
def fnRunSpec : ChangeSpec := { name := "fnRun", fn := fun _ => fun
  | [d1, d2, d3] => { results := [.lit (.bool true)], args := [d1, d2, d3] }
  | _ => none }
def fnRunRow : OpenClaim := { program := "ytjogehjgoemdpaa", sum := "d09e3d878a7217ba64695e074a2c449e28b6d7a8d615bd1276019f450a4ae4a7", func := "loop.example/pub-bitvectors/laws.FnRun", spec := "fnRun", apart := false }
def FnRunSaid : Prop := fnRunRow.holds Try.pinned (OpenSpec.ofChange fnRunSpec)

/-- ITS FALSE NEIGHBOUR: 'it returns false'. Refute it at one input. -/
def fnRunWrong : ChangeSpec := { name := "fnRun", fn := fun _ => fun
  | [d1, d2, d3] => { results := [.lit (.bool false)], args := [d1, d2, d3] }
  | _ => none }
def FnRunWrongFalsely : Prop := fnRunRow.holds Try.pinned (OpenSpec.ofChange fnRunWrong)

/- THE SECOND FORM. 'bulk': how many values and letters a reading holds, each counted each time it is reached (what is shared counts as often as it is met; a slice's spare places count too). A statement '..UptoSaid' is the law's where the arguments, and the package variables that the reading takes, are together of bulk at most 1048576: NARROWER than '..Said'. Prove '..Said' where nothing that the law and all that it calls make is longer than what came in: it says more and counts as full. Else prove '..UptoSaid'. A law counts once. -/
mutual
def uptoBulk {H : Type} : DataW H → Nat
  | .lit (.string bytes) => bytes.length + 1
  | .lit _ => 1
  | .nil => 1
  | .ptr d => uptoBulk d + 1
  | .slice elems spare => uptoBulkAll elems + uptoBulkAll spare + 1
  | .agg parts => uptoBulkAll parts + 1
  | .iface _ d => uptoBulk d + 1
  | .map entries => uptoBulkEntries entries + 1
  | .held _ => 1
def uptoBulkAll {H : Type} : List (DataW H) → Nat
  | [] => 0
  | d :: r => uptoBulk d + uptoBulkAll r
def uptoBulkEntries {H : Type} : List (Lit × DataW H) → Nat
  | [] => 0
  | x :: r => uptoBulkEntry x + uptoBulkEntries r
def uptoBulkEntry {H : Type} : Lit × DataW H → Nat
  | (.string bytes, d) => bytes.length + uptoBulk d + 1
  | (_, d) => uptoBulk d + 1
 end
def uptoSmall : (H : Type) → List (DataW H) → Bool := fun _ ds => decide (uptoBulkAll ds ≤ 1048576)
def OpenSpec.upto (s : _root_.Go.ChangeSpec) : _root_.Go.OpenSpec := { _root_.Go.OpenSpec.ofChange s with cond := some uptoSmall }

/-- 'laws.FnGet', WHERE WHAT IT READS IS OF BULK AT MOST 1048576: true; the input reads as it did. -/
def fnGetUptoRow : OpenClaim := { program := "ytjogehjgoemdpaa", sum := "d09e3d878a7217ba64695e074a2c449e28b6d7a8d615bd1276019f450a4ae4a7", func := "loop.example/pub-bitvectors/laws.FnGet", spec := "fnGet", apart := false, narrowed := true }
def FnGetUptoSaid : Prop := fnGetUptoRow.holds Try.pinned (OpenSpec.upto fnGetSpec)

/-- 'laws.FnIsEmpty', WHERE WHAT IT READS IS OF BULK AT MOST 1048576: true; the input reads as it did. -/
def fnIsEmptyUptoRow : OpenClaim := { program := "ytjogehjgoemdpaa", sum := "d09e3d878a7217ba64695e074a2c449e28b6d7a8d615bd1276019f450a4ae4a7", func := "loop.example/pub-bitvectors/laws.FnIsEmpty", spec := "fnIsEmpty", apart := false, narrowed := true }
def FnIsEmptyUptoSaid : Prop := fnIsEmptyUptoRow.holds Try.pinned (OpenSpec.upto fnIsEmptySpec)

/-- 'laws.FnCount', WHERE WHAT IT READS IS OF BULK AT MOST 1048576: true; the input reads as it did. -/
def fnCountUptoRow : OpenClaim := { program := "ytjogehjgoemdpaa", sum := "d09e3d878a7217ba64695e074a2c449e28b6d7a8d615bd1276019f450a4ae4a7", func := "loop.example/pub-bitvectors/laws.FnCount", spec := "fnCount", apart := false, narrowed := true }
def FnCountUptoSaid : Prop := fnCountUptoRow.holds Try.pinned (OpenSpec.upto fnCountSpec)

/-- 'laws.FnEq', WHERE WHAT IT READS IS OF BULK AT MOST 1048576: true; the input reads as it did. -/
def fnEqUptoRow : OpenClaim := { program := "ytjogehjgoemdpaa", sum := "d09e3d878a7217ba64695e074a2c449e28b6d7a8d615bd1276019f450a4ae4a7", func := "loop.example/pub-bitvectors/laws.FnEq", spec := "fnEq", apart := false, narrowed := true }
def FnEqUptoSaid : Prop := fnEqUptoRow.holds Try.pinned (OpenSpec.upto fnEqSpec)

/-- 'laws.FnSet', WHERE WHAT IT READS IS OF BULK AT MOST 1048576: true; the input reads as it did. -/
def fnSetUptoRow : OpenClaim := { program := "ytjogehjgoemdpaa", sum := "d09e3d878a7217ba64695e074a2c449e28b6d7a8d615bd1276019f450a4ae4a7", func := "loop.example/pub-bitvectors/laws.FnSet", spec := "fnSet", apart := false, narrowed := true }
def FnSetUptoSaid : Prop := fnSetUptoRow.holds Try.pinned (OpenSpec.upto fnSetSpec)

/-- 'laws.FnCopy', WHERE WHAT IT READS IS OF BULK AT MOST 1048576: true; the input reads as it did. -/
def fnCopyUptoRow : OpenClaim := { program := "ytjogehjgoemdpaa", sum := "d09e3d878a7217ba64695e074a2c449e28b6d7a8d615bd1276019f450a4ae4a7", func := "loop.example/pub-bitvectors/laws.FnCopy", spec := "fnCopy", apart := false, narrowed := true }
def FnCopyUptoSaid : Prop := fnCopyUptoRow.holds Try.pinned (OpenSpec.upto fnCopySpec)

/-- 'laws.FnAnd', WHERE WHAT IT READS IS OF BULK AT MOST 1048576: true; the input reads as it did. -/
def fnAndUptoRow : OpenClaim := { program := "ytjogehjgoemdpaa", sum := "d09e3d878a7217ba64695e074a2c449e28b6d7a8d615bd1276019f450a4ae4a7", func := "loop.example/pub-bitvectors/laws.FnAnd", spec := "fnAnd", apart := false, narrowed := true }
def FnAndUptoSaid : Prop := fnAndUptoRow.holds Try.pinned (OpenSpec.upto fnAndSpec)

/-- 'laws.FnAndNot', WHERE WHAT IT READS IS OF BULK AT MOST 1048576: true; the input reads as it did. -/
def fnAndNotUptoRow : OpenClaim := { program := "ytjogehjgoemdpaa", sum := "d09e3d878a7217ba64695e074a2c449e28b6d7a8d615bd1276019f450a4ae4a7", func := "loop.example/pub-bitvectors/laws.FnAndNot", spec := "fnAndNot", apart := false, narrowed := true }
def FnAndNotUptoSaid : Prop := fnAndNotUptoRow.holds Try.pinned (OpenSpec.upto fnAndNotSpec)

/-- 'laws.FnOr', WHERE WHAT IT READS IS OF BULK AT MOST 1048576: true; the input reads as it did. -/
def fnOrUptoRow : OpenClaim := { program := "ytjogehjgoemdpaa", sum := "d09e3d878a7217ba64695e074a2c449e28b6d7a8d615bd1276019f450a4ae4a7", func := "loop.example/pub-bitvectors/laws.FnOr", spec := "fnOr", apart := false, narrowed := true }
def FnOrUptoSaid : Prop := fnOrUptoRow.holds Try.pinned (OpenSpec.upto fnOrSpec)

/-- 'laws.FnClear', WHERE WHAT IT READS IS OF BULK AT MOST 1048576: true; the input reads as it did. -/
def fnClearUptoRow : OpenClaim := { program := "ytjogehjgoemdpaa", sum := "d09e3d878a7217ba64695e074a2c449e28b6d7a8d615bd1276019f450a4ae4a7", func := "loop.example/pub-bitvectors/laws.FnClear", spec := "fnClear", apart := false, narrowed := true }
def FnClearUptoSaid : Prop := fnClearUptoRow.holds Try.pinned (OpenSpec.upto fnClearSpec)

/-- 'laws.FnNot', WHERE WHAT IT READS IS OF BULK AT MOST 1048576: true; the input reads as it did. -/
def fnNotUptoRow : OpenClaim := { program := "ytjogehjgoemdpaa", sum := "d09e3d878a7217ba64695e074a2c449e28b6d7a8d615bd1276019f450a4ae4a7", func := "loop.example/pub-bitvectors/laws.FnNot", spec := "fnNot", apart := false, narrowed := true }
def FnNotUptoSaid : Prop := fnNotUptoRow.holds Try.pinned (OpenSpec.upto fnNotSpec)

/-- 'laws.FnNotTwice', WHERE WHAT IT READS IS OF BULK AT MOST 1048576: true; the input reads as it did. -/
def fnNotTwiceUptoRow : OpenClaim := { program := "ytjogehjgoemdpaa", sum := "d09e3d878a7217ba64695e074a2c449e28b6d7a8d615bd1276019f450a4ae4a7", func := "loop.example/pub-bitvectors/laws.FnNotTwice", spec := "fnNotTwice", apart := false, narrowed := true }
def FnNotTwiceUptoSaid : Prop := fnNotTwiceUptoRow.holds Try.pinned (OpenSpec.upto fnNotTwiceSpec)

/-- 'laws.FnUnset', WHERE WHAT IT READS IS OF BULK AT MOST 1048576: true; the input reads as it did. -/
def fnUnsetUptoRow : OpenClaim := { program := "ytjogehjgoemdpaa", sum := "d09e3d878a7217ba64695e074a2c449e28b6d7a8d615bd1276019f450a4ae4a7", func := "loop.example/pub-bitvectors/laws.FnUnset", spec := "fnUnset", apart := false, narrowed := true }
def FnUnsetUptoSaid : Prop := fnUnsetUptoRow.holds Try.pinned (OpenSpec.upto fnUnsetSpec)

/-- 'laws.FnCountBoth', WHERE WHAT IT READS IS OF BULK AT MOST 1048576: true; the input reads as it did. -/
def fnCountBothUptoRow : OpenClaim := { program := "ytjogehjgoemdpaa", sum := "d09e3d878a7217ba64695e074a2c449e28b6d7a8d615bd1276019f450a4ae4a7", func := "loop.example/pub-bitvectors/laws.FnCountBoth", spec := "fnCountBoth", apart := false, narrowed := true }
def FnCountBothUptoSaid : Prop := fnCountBothUptoRow.holds Try.pinned (OpenSpec.upto fnCountBothSpec)

/-- 'laws.FnMorgan', WHERE WHAT IT READS IS OF BULK AT MOST 1048576: true; the input reads as it did. -/
def fnMorganUptoRow : OpenClaim := { program := "ytjogehjgoemdpaa", sum := "d09e3d878a7217ba64695e074a2c449e28b6d7a8d615bd1276019f450a4ae4a7", func := "loop.example/pub-bitvectors/laws.FnMorgan", spec := "fnMorgan", apart := false, narrowed := true }
def FnMorganUptoSaid : Prop := fnMorganUptoRow.holds Try.pinned (OpenSpec.upto fnMorganSpec)

/-- 'laws.FnApart', WHERE WHAT IT READS IS OF BULK AT MOST 1048576: true; the input reads as it did. -/
def fnApartUptoRow : OpenClaim := { program := "ytjogehjgoemdpaa", sum := "d09e3d878a7217ba64695e074a2c449e28b6d7a8d615bd1276019f450a4ae4a7", func := "loop.example/pub-bitvectors/laws.FnApart", spec := "fnApart", apart := false, narrowed := true }
def FnApartUptoSaid : Prop := fnApartUptoRow.holds Try.pinned (OpenSpec.upto fnApartSpec)

/-- 'laws.FnRun', WHERE WHAT IT READS IS OF BULK AT MOST 1048576: true; the input reads as it did. -/
def fnRunUptoRow : OpenClaim := { program := "ytjogehjgoemdpaa", sum := "d09e3d878a7217ba64695e074a2c449e28b6d7a8d615bd1276019f450a4ae4a7", func := "loop.example/pub-bitvectors/laws.FnRun", spec := "fnRun", apart := false, narrowed := true }
def FnRunUptoSaid : Prop := fnRunUptoRow.holds Try.pinned (OpenSpec.upto fnRunSpec)

end Rows
end Go.Proofs.Ytjogehjgoemdpaa

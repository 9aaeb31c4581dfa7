/-
  No cell of these rows narrows 'for every input' (looked for: loops, veiled, ifaces, maps, wideKeys, modest, calm, conditions, laid).
  DERIVED. THE GIVEN ROWS OF THIS SEAT. 13 by the template 'for every input the law returns true; each argument reads behind the call as it read before'; 0 by the template 'total and deterministic' (their statements: YtbliimclmdigcaaTotals.lean).
  GIVEN WITH THE SEED: the statements are not yours to turn. If you find one false, say at which input.
  Laid BY PROGRAM, IN A SANDBOX (cutbox-rows.mjs): the forced cells as the released guide's own fill.sh prints them over the translation db90770e03a77421… (all of the seat's roots in one cut). By AI agents, Wed Nov 11 2026. No macro, syntax, notation, axiom, sorry.
-/
import Derived.Test.YtbliimclmdigcaaChecked
import GoSem.Claim
import GoSem.ClaimJoined
import GoSem.ClaimMapViews
import Derived.JoinedTies
import Derived.KernelRfl
namespace Go.Proofs.Ytbliimclmdigcaa
/- THE CELL 'sum', in the pinned program and in every row, IS THE sha256 OF THE DUMP (.gsa) THAT YtbliimclmdigcaaProg.lean LOADS. Nothing in Lean hashes anything: it is a label: what it is worth is what the hold of that sum in a sandbox is worth. -/
noncomputable def Try.pinned : Pinned := { name := "ytbliimclmdigcaa", sum := "db90770e03a774212a328f56b685f657acd8b20207a4473a9b4dbfa6ad80fbbc", checked := Try.checked }
namespace Rows
def none {H : Type} : Left H := { results := [], args := [] }

/-- 'laws.FnUintSize': WHATEVER THE INPUT: true; the input reads as it did. -/
def fnUintSizeSpec : ChangeSpec := { name := "fnUintSize", fn := fun _ => fun
  | [d] => { results := [.lit (.bool true)], args := [d] }
  | _ => none }
def fnUintSizeRow : OpenClaim := { program := "ytbliimclmdigcaa", sum := "db90770e03a774212a328f56b685f657acd8b20207a4473a9b4dbfa6ad80fbbc", func := "lib-bitlathe/laws.FnUintSize", spec := "fnUintSize", apart := false }
def FnUintSizeSaid : Prop := fnUintSizeRow.holds Try.pinned (OpenSpec.ofChange fnUintSizeSpec)

/-- ITS FALSE NEIGHBOUR: 'it returns false'. Refute it at one input. -/
def fnUintSizeWrong : ChangeSpec := { name := "fnUintSize", fn := fun _ => fun
  | [d] => { results := [.lit (.bool false)], args := [d] }
  | _ => none }
def FnUintSizeWrongFalsely : Prop := fnUintSizeRow.holds Try.pinned (OpenSpec.ofChange fnUintSizeWrong)

/-- 'laws.FnRotateLeft': WHATEVER THE INPUT: true; the input reads as it did. -/
def fnRotateLeftSpec : ChangeSpec := { name := "fnRotateLeft", fn := fun _ => fun
  | [d1, d2] => { results := [.lit (.bool true)], args := [d1, d2] }
  | _ => none }
def fnRotateLeftRow : OpenClaim := { program := "ytbliimclmdigcaa", sum := "db90770e03a774212a328f56b685f657acd8b20207a4473a9b4dbfa6ad80fbbc", func := "lib-bitlathe/laws.FnRotateLeft", spec := "fnRotateLeft", apart := false }
def FnRotateLeftSaid : Prop := fnRotateLeftRow.holds Try.pinned (OpenSpec.ofChange fnRotateLeftSpec)

/-- ITS FALSE NEIGHBOUR: 'it returns false'. Refute it at one input. -/
def fnRotateLeftWrong : ChangeSpec := { name := "fnRotateLeft", fn := fun _ => fun
  | [d1, d2] => { results := [.lit (.bool false)], args := [d1, d2] }
  | _ => none }
def FnRotateLeftWrongFalsely : Prop := fnRotateLeftRow.holds Try.pinned (OpenSpec.ofChange fnRotateLeftWrong)

/-- 'laws.FnReverseBytes': WHATEVER THE INPUT: true; the input reads as it did. -/
def fnReverseBytesSpec : ChangeSpec := { name := "fnReverseBytes", fn := fun _ => fun
  | [d] => { results := [.lit (.bool true)], args := [d] }
  | _ => none }
def fnReverseBytesRow : OpenClaim := { program := "ytbliimclmdigcaa", sum := "db90770e03a774212a328f56b685f657acd8b20207a4473a9b4dbfa6ad80fbbc", func := "lib-bitlathe/laws.FnReverseBytes", spec := "fnReverseBytes", apart := false }
def FnReverseBytesSaid : Prop := fnReverseBytesRow.holds Try.pinned (OpenSpec.ofChange fnReverseBytesSpec)

/-- ITS FALSE NEIGHBOUR: 'it returns false'. Refute it at one input. -/
def fnReverseBytesWrong : ChangeSpec := { name := "fnReverseBytes", fn := fun _ => fun
  | [d] => { results := [.lit (.bool false)], args := [d] }
  | _ => none }
def FnReverseBytesWrongFalsely : Prop := fnReverseBytesRow.holds Try.pinned (OpenSpec.ofChange fnReverseBytesWrong)

/-- 'laws.FnReverse': WHATEVER THE INPUT: true; the input reads as it did. -/
def fnReverseSpec : ChangeSpec := { name := "fnReverse", fn := fun _ => fun
  | [d] => { results := [.lit (.bool true)], args := [d] }
  | _ => none }
def fnReverseRow : OpenClaim := { program := "ytbliimclmdigcaa", sum := "db90770e03a774212a328f56b685f657acd8b20207a4473a9b4dbfa6ad80fbbc", func := "lib-bitlathe/laws.FnReverse", spec := "fnReverse", apart := false }
def FnReverseSaid : Prop := fnReverseRow.holds Try.pinned (OpenSpec.ofChange fnReverseSpec)

/-- ITS FALSE NEIGHBOUR: 'it returns false'. Refute it at one input. -/
def fnReverseWrong : ChangeSpec := { name := "fnReverse", fn := fun _ => fun
  | [d] => { results := [.lit (.bool false)], args := [d] }
  | _ => none }
def FnReverseWrongFalsely : Prop := fnReverseRow.holds Try.pinned (OpenSpec.ofChange fnReverseWrong)

/-- 'laws.FnLen': WHATEVER THE INPUT: true; the input reads as it did. -/
def fnLenSpec : ChangeSpec := { name := "fnLen", fn := fun _ => fun
  | [d] => { results := [.lit (.bool true)], args := [d] }
  | _ => none }
def fnLenRow : OpenClaim := { program := "ytbliimclmdigcaa", sum := "db90770e03a774212a328f56b685f657acd8b20207a4473a9b4dbfa6ad80fbbc", func := "lib-bitlathe/laws.FnLen", spec := "fnLen", apart := false }
def FnLenSaid : Prop := fnLenRow.holds Try.pinned (OpenSpec.ofChange fnLenSpec)

/-- ITS FALSE NEIGHBOUR: 'it returns false'. Refute it at one input. -/
def fnLenWrong : ChangeSpec := { name := "fnLen", fn := fun _ => fun
  | [d] => { results := [.lit (.bool false)], args := [d] }
  | _ => none }
def FnLenWrongFalsely : Prop := fnLenRow.holds Try.pinned (OpenSpec.ofChange fnLenWrong)

/-- 'laws.FnLeadingZeros': WHATEVER THE INPUT: true; the input reads as it did. -/
def fnLeadingZerosSpec : ChangeSpec := { name := "fnLeadingZeros", fn := fun _ => fun
  | [d] => { results := [.lit (.bool true)], args := [d] }
  | _ => none }
def fnLeadingZerosRow : OpenClaim := { program := "ytbliimclmdigcaa", sum := "db90770e03a774212a328f56b685f657acd8b20207a4473a9b4dbfa6ad80fbbc", func := "lib-bitlathe/laws.FnLeadingZeros", spec := "fnLeadingZeros", apart := false }
def FnLeadingZerosSaid : Prop := fnLeadingZerosRow.holds Try.pinned (OpenSpec.ofChange fnLeadingZerosSpec)

/-- ITS FALSE NEIGHBOUR: 'it returns false'. Refute it at one input. -/
def fnLeadingZerosWrong : ChangeSpec := { name := "fnLeadingZeros", fn := fun _ => fun
  | [d] => { results := [.lit (.bool false)], args := [d] }
  | _ => none }
def FnLeadingZerosWrongFalsely : Prop := fnLeadingZerosRow.holds Try.pinned (OpenSpec.ofChange fnLeadingZerosWrong)

/-- 'laws.FnLengths': WHATEVER THE INPUT: true; the input reads as it did. -/
def fnLengthsSpec : ChangeSpec := { name := "fnLengths", fn := fun _ => fun
  | [d1, d2] => { results := [.lit (.bool true)], args := [d1, d2] }
  | _ => none }
def fnLengthsRow : OpenClaim := { program := "ytbliimclmdigcaa", sum := "db90770e03a774212a328f56b685f657acd8b20207a4473a9b4dbfa6ad80fbbc", func := "lib-bitlathe/laws.FnLengths", spec := "fnLengths", apart := false }
def FnLengthsSaid : Prop := fnLengthsRow.holds Try.pinned (OpenSpec.ofChange fnLengthsSpec)

/-- ITS FALSE NEIGHBOUR: 'it returns false'. Refute it at one input. -/
def fnLengthsWrong : ChangeSpec := { name := "fnLengths", fn := fun _ => fun
  | [d1, d2] => { results := [.lit (.bool false)], args := [d1, d2] }
  | _ => none }
def FnLengthsWrongFalsely : Prop := fnLengthsRow.holds Try.pinned (OpenSpec.ofChange fnLengthsWrong)

/-- 'laws.FnOnesCount': WHATEVER THE INPUT: true; the input reads as it did. -/
def fnOnesCountSpec : ChangeSpec := { name := "fnOnesCount", fn := fun _ => fun
  | [d] => { results := [.lit (.bool true)], args := [d] }
  | _ => none }
def fnOnesCountRow : OpenClaim := { program := "ytbliimclmdigcaa", sum := "db90770e03a774212a328f56b685f657acd8b20207a4473a9b4dbfa6ad80fbbc", func := "lib-bitlathe/laws.FnOnesCount", spec := "fnOnesCount", apart := false }
def FnOnesCountSaid : Prop := fnOnesCountRow.holds Try.pinned (OpenSpec.ofChange fnOnesCountSpec)

/-- ITS FALSE NEIGHBOUR: 'it returns false'. Refute it at one input. -/
def fnOnesCountWrong : ChangeSpec := { name := "fnOnesCount", fn := fun _ => fun
  | [d] => { results := [.lit (.bool false)], args := [d] }
  | _ => none }
def FnOnesCountWrongFalsely : Prop := fnOnesCountRow.holds Try.pinned (OpenSpec.ofChange fnOnesCountWrong)

/-- 'laws.FnBytesReversed': WHATEVER THE INPUT: true; the input reads as it did. -/
def fnBytesReversedSpec : ChangeSpec := { name := "fnBytesReversed", fn := fun _ => fun
  | [d] => { results := [.lit (.bool true)], args := [d] }
  | _ => none }
def fnBytesReversedRow : OpenClaim := { program := "ytbliimclmdigcaa", sum := "db90770e03a774212a328f56b685f657acd8b20207a4473a9b4dbfa6ad80fbbc", func := "lib-bitlathe/laws.FnBytesReversed", spec := "fnBytesReversed", apart := false }
def FnBytesReversedSaid : Prop := fnBytesReversedRow.holds Try.pinned (OpenSpec.ofChange fnBytesReversedSpec)

/-- ITS FALSE NEIGHBOUR: 'it returns false'. Refute it at one input. -/
def fnBytesReversedWrong : ChangeSpec := { name := "fnBytesReversed", fn := fun _ => fun
  | [d] => { results := [.lit (.bool false)], args := [d] }
  | _ => none }
def FnBytesReversedWrongFalsely : Prop := fnBytesReversedRow.holds Try.pinned (OpenSpec.ofChange fnBytesReversedWrong)

/-- 'laws.FnRotationsByShifts': WHATEVER THE INPUT: true; the input reads as it did. -/
def fnRotationsByShiftsSpec : ChangeSpec := { name := "fnRotationsByShifts", fn := fun _ => fun
  | [d1, d2] => { results := [.lit (.bool true)], args := [d1, d2] }
  | _ => none }
def fnRotationsByShiftsRow : OpenClaim := { program := "ytbliimclmdigcaa", sum := "db90770e03a774212a328f56b685f657acd8b20207a4473a9b4dbfa6ad80fbbc", func := "lib-bitlathe/laws.FnRotationsByShifts", spec := "fnRotationsByShifts", apart := false }
def FnRotationsByShiftsSaid : Prop := fnRotationsByShiftsRow.holds Try.pinned (OpenSpec.ofChange fnRotationsByShiftsSpec)

/-- ITS FALSE NEIGHBOUR: 'it returns false'. Refute it at one input. -/
def fnRotationsByShiftsWrong : ChangeSpec := { name := "fnRotationsByShifts", fn := fun _ => fun
  | [d1, d2] => { results := [.lit (.bool false)], args := [d1, d2] }
  | _ => none }
def FnRotationsByShiftsWrongFalsely : Prop := fnRotationsByShiftsRow.holds Try.pinned (OpenSpec.ofChange fnRotationsByShiftsWrong)

/-- 'laws.FnReversed': WHATEVER THE INPUT: true; the input reads as it did. -/
def fnReversedSpec : ChangeSpec := { name := "fnReversed", fn := fun _ => fun
  | [d1, d2] => { results := [.lit (.bool true)], args := [d1, d2] }
  | _ => none }
def fnReversedRow : OpenClaim := { program := "ytbliimclmdigcaa", sum := "db90770e03a774212a328f56b685f657acd8b20207a4473a9b4dbfa6ad80fbbc", func := "lib-bitlathe/laws.FnReversed", spec := "fnReversed", unfollowed := true, recurses := true, apart := false }
def FnReversedSaid : Prop := fnReversedRow.holds Try.pinned (OpenSpec.ofChange fnReversedSpec)

/-- ITS FALSE NEIGHBOUR: 'it returns false'. Refute it at one input. -/
def fnReversedWrong : ChangeSpec := { name := "fnReversed", fn := fun _ => fun
  | [d1, d2] => { results := [.lit (.bool false)], args := [d1, d2] }
  | _ => none }
def FnReversedWrongFalsely : Prop := fnReversedRow.holds Try.pinned (OpenSpec.ofChange fnReversedWrong)

/-- 'laws.FnOnes': WHATEVER THE INPUT: true; the input reads as it did. -/
def fnOnesSpec : ChangeSpec := { name := "fnOnes", fn := fun _ => fun
  | [d1, d2, d3] => { results := [.lit (.bool true)], args := [d1, d2, d3] }
  | _ => none }
def fnOnesRow : OpenClaim := { program := "ytbliimclmdigcaa", sum := "db90770e03a774212a328f56b685f657acd8b20207a4473a9b4dbfa6ad80fbbc", func := "lib-bitlathe/laws.FnOnes", spec := "fnOnes", unfollowed := true, recurses := true, apart := false }
def FnOnesSaid : Prop := fnOnesRow.holds Try.pinned (OpenSpec.ofChange fnOnesSpec)

/-- ITS FALSE NEIGHBOUR: 'it returns false'. Refute it at one input. -/
def fnOnesWrong : ChangeSpec := { name := "fnOnes", fn := fun _ => fun
  | [d1, d2, d3] => { results := [.lit (.bool false)], args := [d1, d2, d3] }
  | _ => none }
def FnOnesWrongFalsely : Prop := fnOnesRow.holds Try.pinned (OpenSpec.ofChange fnOnesWrong)

/-- 'laws.FnRotations': WHATEVER THE INPUT: true; the input reads as it did. -/
def fnRotationsSpec : ChangeSpec := { name := "fnRotations", fn := fun _ => fun
  | [d1, d2, d3] => { results := [.lit (.bool true)], args := [d1, d2, d3] }
  | _ => none }
def fnRotationsRow : OpenClaim := { program := "ytbliimclmdigcaa", sum := "db90770e03a774212a328f56b685f657acd8b20207a4473a9b4dbfa6ad80fbbc", func := "lib-bitlathe/laws.FnRotations", spec := "fnRotations", unfollowed := true, recurses := true, apart := false }
def FnRotationsSaid : Prop := fnRotationsRow.holds Try.pinned (OpenSpec.ofChange fnRotationsSpec)

/-- ITS FALSE NEIGHBOUR: 'it returns false'. Refute it at one input. -/
def fnRotationsWrong : ChangeSpec := { name := "fnRotations", fn := fun _ => fun
  | [d1, d2, d3] => { results := [.lit (.bool false)], args := [d1, d2, d3] }
  | _ => none }
def FnRotationsWrongFalsely : Prop := fnRotationsRow.holds Try.pinned (OpenSpec.ofChange fnRotationsWrong)

/- THE SECOND FORM. 'bulk': how many values and letters a reading holds, each counted each time it is reached (what is shared counts as often as it is met; a slice's spare places count too). A statement '..UptoSaid' is the law's where the arguments, and the package variables that the reading takes, are together of bulk at most 1048576: NARROWER than '..Said'. Prove '..Said' where nothing that the law and all that it calls make is longer than what came in: it says more and counts as full. Else prove '..UptoSaid'. A law counts once. -/
mutual
def uptoBulk {H : Type} : DataW H → Nat
  | .lit (.string bytes) => bytes.length + 1
  | .lit _ => 1
  | .nil => 1
  | .ptr d => uptoBulk d + 1
  | .slice elems spare => uptoBulkAll elems + uptoBulkAll spare + 1
  | .agg parts => uptoBulkAll parts + 1
  | .iface _ d => uptoBulk d + 1
  | .map entries => uptoBulkEntries entries + 1
  | .held _ => 1
def uptoBulkAll {H : Type} : List (DataW H) → Nat
  | [] => 0
  | d :: r => uptoBulk d + uptoBulkAll r
def uptoBulkEntries {H : Type} : List (Lit × DataW H) → Nat
  | [] => 0
  | x :: r => uptoBulkEntry x + uptoBulkEntries r
def uptoBulkEntry {H : Type} : Lit × DataW H → Nat
  | (.string bytes, d) => bytes.length + uptoBulk d + 1
  | (_, d) => uptoBulk d + 1
 end
def uptoSmall : (H : Type) → List (DataW H) → Bool := fun _ ds => decide (uptoBulkAll ds ≤ 1048576)
def OpenSpec.upto (s : _root_.Go.ChangeSpec) : _root_.Go.OpenSpec := { _root_.Go.OpenSpec.ofChange s with cond := some uptoSmall }

/-- 'laws.FnUintSize', WHERE WHAT IT READS IS OF BULK AT MOST 1048576: true; the input reads as it did. -/
def fnUintSizeUptoRow : OpenClaim := { program := "ytbliimclmdigcaa", sum := "db90770e03a774212a328f56b685f657acd8b20207a4473a9b4dbfa6ad80fbbc", func := "lib-bitlathe/laws.FnUintSize", spec := "fnUintSize", apart := false, narrowed := true }
def FnUintSizeUptoSaid : Prop := fnUintSizeUptoRow.holds Try.pinned (OpenSpec.upto fnUintSizeSpec)

/-- 'laws.FnRotateLeft', WHERE WHAT IT READS IS OF BULK AT MOST 1048576: true; the input reads as it did. -/
def fnRotateLeftUptoRow : OpenClaim := { program := "ytbliimclmdigcaa", sum := "db90770e03a774212a328f56b685f657acd8b20207a4473a9b4dbfa6ad80fbbc", func := "lib-bitlathe/laws.FnRotateLeft", spec := "fnRotateLeft", apart := false, narrowed := true }
def FnRotateLeftUptoSaid : Prop := fnRotateLeftUptoRow.holds Try.pinned (OpenSpec.upto fnRotateLeftSpec)

/-- 'laws.FnReverseBytes', WHERE WHAT IT READS IS OF BULK AT MOST 1048576: true; the input reads as it did. -/
def fnReverseBytesUptoRow : OpenClaim := { program := "ytbliimclmdigcaa", sum := "db90770e03a774212a328f56b685f657acd8b20207a4473a9b4dbfa6ad80fbbc", func := "lib-bitlathe/laws.FnReverseBytes", spec := "fnReverseBytes", apart := false, narrowed := true }
def FnReverseBytesUptoSaid : Prop := fnReverseBytesUptoRow.holds Try.pinned (OpenSpec.upto fnReverseBytesSpec)

/-- 'laws.FnReverse', WHERE WHAT IT READS IS OF BULK AT MOST 1048576: true; the input reads as it did. -/
def fnReverseUptoRow : OpenClaim := { program := "ytbliimclmdigcaa", sum := "db90770e03a774212a328f56b685f657acd8b20207a4473a9b4dbfa6ad80fbbc", func := "lib-bitlathe/laws.FnReverse", spec := "fnReverse", apart := false, narrowed := true }
def FnReverseUptoSaid : Prop := fnReverseUptoRow.holds Try.pinned (OpenSpec.upto fnReverseSpec)

/-- 'laws.FnLen', WHERE WHAT IT READS IS OF BULK AT MOST 1048576: true; the input reads as it did. -/
def fnLenUptoRow : OpenClaim := { program := "ytbliimclmdigcaa", sum := "db90770e03a774212a328f56b685f657acd8b20207a4473a9b4dbfa6ad80fbbc", func := "lib-bitlathe/laws.FnLen", spec := "fnLen", apart := false, narrowed := true }
def FnLenUptoSaid : Prop := fnLenUptoRow.holds Try.pinned (OpenSpec.upto fnLenSpec)

/-- 'laws.FnLeadingZeros', WHERE WHAT IT READS IS OF BULK AT MOST 1048576: true; the input reads as it did. -/
def fnLeadingZerosUptoRow : OpenClaim := { program := "ytbliimclmdigcaa", sum := "db90770e03a774212a328f56b685f657acd8b20207a4473a9b4dbfa6ad80fbbc", func := "lib-bitlathe/laws.FnLeadingZeros", spec := "fnLeadingZeros", apart := false, narrowed := true }
def FnLeadingZerosUptoSaid : Prop := fnLeadingZerosUptoRow.holds Try.pinned (OpenSpec.upto fnLeadingZerosSpec)

/-- 'laws.FnLengths', WHERE WHAT IT READS IS OF BULK AT MOST 1048576: true; the input reads as it did. -/
def fnLengthsUptoRow : OpenClaim := { program := "ytbliimclmdigcaa", sum := "db90770e03a774212a328f56b685f657acd8b20207a4473a9b4dbfa6ad80fbbc", func := "lib-bitlathe/laws.FnLengths", spec := "fnLengths", apart := false, narrowed := true }
def FnLengthsUptoSaid : Prop := fnLengthsUptoRow.holds Try.pinned (OpenSpec.upto fnLengthsSpec)

/-- 'laws.FnOnesCount', WHERE WHAT IT READS IS OF BULK AT MOST 1048576: true; the input reads as it did. -/
def fnOnesCountUptoRow : OpenClaim := { program := "ytbliimclmdigcaa", sum := "db90770e03a774212a328f56b685f657acd8b20207a4473a9b4dbfa6ad80fbbc", func := "lib-bitlathe/laws.FnOnesCount", spec := "fnOnesCount", apart := false, narrowed := true }
def FnOnesCountUptoSaid : Prop := fnOnesCountUptoRow.holds Try.pinned (OpenSpec.upto fnOnesCountSpec)

/-- 'laws.FnBytesReversed', WHERE WHAT IT READS IS OF BULK AT MOST 1048576: true; the input reads as it did. -/
def fnBytesReversedUptoRow : OpenClaim := { program := "ytbliimclmdigcaa", sum := "db90770e03a774212a328f56b685f657acd8b20207a4473a9b4dbfa6ad80fbbc", func := "lib-bitlathe/laws.FnBytesReversed", spec := "fnBytesReversed", apart := false, narrowed := true }
def FnBytesReversedUptoSaid : Prop := fnBytesReversedUptoRow.holds Try.pinned (OpenSpec.upto fnBytesReversedSpec)

/-- 'laws.FnRotationsByShifts', WHERE WHAT IT READS IS OF BULK AT MOST 1048576: true; the input reads as it did. -/
def fnRotationsByShiftsUptoRow : OpenClaim := { program := "ytbliimclmdigcaa", sum := "db90770e03a774212a328f56b685f657acd8b20207a4473a9b4dbfa6ad80fbbc", func := "lib-bitlathe/laws.FnRotationsByShifts", spec := "fnRotationsByShifts", apart := false, narrowed := true }
def FnRotationsByShiftsUptoSaid : Prop := fnRotationsByShiftsUptoRow.holds Try.pinned (OpenSpec.upto fnRotationsByShiftsSpec)

/-- 'laws.FnReversed', WHERE WHAT IT READS IS OF BULK AT MOST 1048576: true; the input reads as it did. -/
def fnReversedUptoRow : OpenClaim := { program := "ytbliimclmdigcaa", sum := "db90770e03a774212a328f56b685f657acd8b20207a4473a9b4dbfa6ad80fbbc", func := "lib-bitlathe/laws.FnReversed", spec := "fnReversed", unfollowed := true, recurses := true, apart := false, narrowed := true }
def FnReversedUptoSaid : Prop := fnReversedUptoRow.holds Try.pinned (OpenSpec.upto fnReversedSpec)

/-- 'laws.FnOnes', WHERE WHAT IT READS IS OF BULK AT MOST 1048576: true; the input reads as it did. -/
def fnOnesUptoRow : OpenClaim := { program := "ytbliimclmdigcaa", sum := "db90770e03a774212a328f56b685f657acd8b20207a4473a9b4dbfa6ad80fbbc", func := "lib-bitlathe/laws.FnOnes", spec := "fnOnes", unfollowed := true, recurses := true, apart := false, narrowed := true }
def FnOnesUptoSaid : Prop := fnOnesUptoRow.holds Try.pinned (OpenSpec.upto fnOnesSpec)

/-- 'laws.FnRotations', WHERE WHAT IT READS IS OF BULK AT MOST 1048576: true; the input reads as it did. -/
def fnRotationsUptoRow : OpenClaim := { program := "ytbliimclmdigcaa", sum := "db90770e03a774212a328f56b685f657acd8b20207a4473a9b4dbfa6ad80fbbc", func := "lib-bitlathe/laws.FnRotations", spec := "fnRotations", unfollowed := true, recurses := true, apart := false, narrowed := true }
def FnRotationsUptoSaid : Prop := fnRotationsUptoRow.holds Try.pinned (OpenSpec.upto fnRotationsSpec)

end Rows
end Go.Proofs.Ytbliimclmdigcaa

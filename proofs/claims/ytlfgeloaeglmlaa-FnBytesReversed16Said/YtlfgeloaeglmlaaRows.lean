/-
  No cell of these rows narrows 'for every input' (looked for: loops, veiled, ifaces, maps, wideKeys, modest, calm, conditions, laid).
  DERIVED. THE GIVEN ROWS OF THIS SEAT. 12 by the template 'for every input the law returns true; each argument reads behind the call as it read before'; 0 by the template 'total and deterministic' (their statements: YtlfgeloaeglmlaaTotals.lean).
  GIVEN WITH THE SEED: the statements are not yours to turn. If you find one false, say at which input.
  Laid BY PROGRAM, IN A SANDBOX (cutbox-rows.mjs): the forced cells as the released guide's own fill.sh prints them over the translation 1e111621757f165c… (all of the seat's roots in one cut). By AI agents, Wed Nov 11 2026. No macro, syntax, notation, axiom, sorry.
-/
import Derived.Test.YtlfgeloaeglmlaaChecked
import GoSem.Claim
import GoSem.ClaimJoined
import GoSem.ClaimMapViews
import Derived.JoinedTies
import Derived.KernelRfl
namespace Go.Proofs.Ytlfgeloaeglmlaa
/- THE CELL 'sum', in the pinned program and in every row, IS THE sha256 OF THE DUMP (.gsa) THAT YtlfgeloaeglmlaaProg.lean LOADS. Nothing in Lean hashes anything: it is a label: what it is worth is what the hold of that sum in a sandbox is worth. -/
noncomputable def Try.pinned : Pinned := { name := "ytlfgeloaeglmlaa", sum := "1e111621757f165c047e49b0e6472f8980b0e22fddceae83ca6ac82e3b0e5618", checked := Try.checked }
namespace Rows
def none {H : Type} : Left H := { results := [], args := [] }

/-- 'laws.FnOnesCount16': WHATEVER THE INPUT: true; the input reads as it did. -/
def fnOnesCount16Spec : ChangeSpec := { name := "fnOnesCount16", fn := fun _ => fun
  | [d] => { results := [.lit (.bool true)], args := [d] }
  | _ => none }
def fnOnesCount16Row : OpenClaim := { program := "ytlfgeloaeglmlaa", sum := "1e111621757f165c047e49b0e6472f8980b0e22fddceae83ca6ac82e3b0e5618", func := "lib-bitlathe/laws.FnOnesCount16", spec := "fnOnesCount16", apart := false }
def FnOnesCount16Said : Prop := fnOnesCount16Row.holds Try.pinned (OpenSpec.ofChange fnOnesCount16Spec)

/-- ITS FALSE NEIGHBOUR: 'it returns false'. Refute it at one input. -/
def fnOnesCount16Wrong : ChangeSpec := { name := "fnOnesCount16", fn := fun _ => fun
  | [d] => { results := [.lit (.bool false)], args := [d] }
  | _ => none }
def FnOnesCount16WrongFalsely : Prop := fnOnesCount16Row.holds Try.pinned (OpenSpec.ofChange fnOnesCount16Wrong)

/-- 'laws.FnReverse16': WHATEVER THE INPUT: true; the input reads as it did. -/
def fnReverse16Spec : ChangeSpec := { name := "fnReverse16", fn := fun _ => fun
  | [d] => { results := [.lit (.bool true)], args := [d] }
  | _ => none }
def fnReverse16Row : OpenClaim := { program := "ytlfgeloaeglmlaa", sum := "1e111621757f165c047e49b0e6472f8980b0e22fddceae83ca6ac82e3b0e5618", func := "lib-bitlathe/laws.FnReverse16", spec := "fnReverse16", apart := false }
def FnReverse16Said : Prop := fnReverse16Row.holds Try.pinned (OpenSpec.ofChange fnReverse16Spec)

/-- ITS FALSE NEIGHBOUR: 'it returns false'. Refute it at one input. -/
def fnReverse16Wrong : ChangeSpec := { name := "fnReverse16", fn := fun _ => fun
  | [d] => { results := [.lit (.bool false)], args := [d] }
  | _ => none }
def FnReverse16WrongFalsely : Prop := fnReverse16Row.holds Try.pinned (OpenSpec.ofChange fnReverse16Wrong)

/-- 'laws.FnReverseBytes16': WHATEVER THE INPUT: true; the input reads as it did. -/
def fnReverseBytes16Spec : ChangeSpec := { name := "fnReverseBytes16", fn := fun _ => fun
  | [d] => { results := [.lit (.bool true)], args := [d] }
  | _ => none }
def fnReverseBytes16Row : OpenClaim := { program := "ytlfgeloaeglmlaa", sum := "1e111621757f165c047e49b0e6472f8980b0e22fddceae83ca6ac82e3b0e5618", func := "lib-bitlathe/laws.FnReverseBytes16", spec := "fnReverseBytes16", apart := false }
def FnReverseBytes16Said : Prop := fnReverseBytes16Row.holds Try.pinned (OpenSpec.ofChange fnReverseBytes16Spec)

/-- ITS FALSE NEIGHBOUR: 'it returns false'. Refute it at one input. -/
def fnReverseBytes16Wrong : ChangeSpec := { name := "fnReverseBytes16", fn := fun _ => fun
  | [d] => { results := [.lit (.bool false)], args := [d] }
  | _ => none }
def FnReverseBytes16WrongFalsely : Prop := fnReverseBytes16Row.holds Try.pinned (OpenSpec.ofChange fnReverseBytes16Wrong)

/-- 'laws.FnRotateLeft16': WHATEVER THE INPUT: true; the input reads as it did. -/
def fnRotateLeft16Spec : ChangeSpec := { name := "fnRotateLeft16", fn := fun _ => fun
  | [d1, d2] => { results := [.lit (.bool true)], args := [d1, d2] }
  | _ => none }
def fnRotateLeft16Row : OpenClaim := { program := "ytlfgeloaeglmlaa", sum := "1e111621757f165c047e49b0e6472f8980b0e22fddceae83ca6ac82e3b0e5618", func := "lib-bitlathe/laws.FnRotateLeft16", spec := "fnRotateLeft16", apart := false }
def FnRotateLeft16Said : Prop := fnRotateLeft16Row.holds Try.pinned (OpenSpec.ofChange fnRotateLeft16Spec)

/-- ITS FALSE NEIGHBOUR: 'it returns false'. Refute it at one input. -/
def fnRotateLeft16Wrong : ChangeSpec := { name := "fnRotateLeft16", fn := fun _ => fun
  | [d1, d2] => { results := [.lit (.bool false)], args := [d1, d2] }
  | _ => none }
def FnRotateLeft16WrongFalsely : Prop := fnRotateLeft16Row.holds Try.pinned (OpenSpec.ofChange fnRotateLeft16Wrong)

/-- 'laws.FnLen16': WHATEVER THE INPUT: true; the input reads as it did. -/
def fnLen16Spec : ChangeSpec := { name := "fnLen16", fn := fun _ => fun
  | [d] => { results := [.lit (.bool true)], args := [d] }
  | _ => none }
def fnLen16Row : OpenClaim := { program := "ytlfgeloaeglmlaa", sum := "1e111621757f165c047e49b0e6472f8980b0e22fddceae83ca6ac82e3b0e5618", func := "lib-bitlathe/laws.FnLen16", spec := "fnLen16", apart := false }
def FnLen16Said : Prop := fnLen16Row.holds Try.pinned (OpenSpec.ofChange fnLen16Spec)

/-- ITS FALSE NEIGHBOUR: 'it returns false'. Refute it at one input. -/
def fnLen16Wrong : ChangeSpec := { name := "fnLen16", fn := fun _ => fun
  | [d] => { results := [.lit (.bool false)], args := [d] }
  | _ => none }
def FnLen16WrongFalsely : Prop := fnLen16Row.holds Try.pinned (OpenSpec.ofChange fnLen16Wrong)

/-- 'laws.FnLeadingZeros16': WHATEVER THE INPUT: true; the input reads as it did. -/
def fnLeadingZeros16Spec : ChangeSpec := { name := "fnLeadingZeros16", fn := fun _ => fun
  | [d] => { results := [.lit (.bool true)], args := [d] }
  | _ => none }
def fnLeadingZeros16Row : OpenClaim := { program := "ytlfgeloaeglmlaa", sum := "1e111621757f165c047e49b0e6472f8980b0e22fddceae83ca6ac82e3b0e5618", func := "lib-bitlathe/laws.FnLeadingZeros16", spec := "fnLeadingZeros16", apart := false }
def FnLeadingZeros16Said : Prop := fnLeadingZeros16Row.holds Try.pinned (OpenSpec.ofChange fnLeadingZeros16Spec)

/-- ITS FALSE NEIGHBOUR: 'it returns false'. Refute it at one input. -/
def fnLeadingZeros16Wrong : ChangeSpec := { name := "fnLeadingZeros16", fn := fun _ => fun
  | [d] => { results := [.lit (.bool false)], args := [d] }
  | _ => none }
def FnLeadingZeros16WrongFalsely : Prop := fnLeadingZeros16Row.holds Try.pinned (OpenSpec.ofChange fnLeadingZeros16Wrong)

/-- 'laws.FnReversed16': WHATEVER THE INPUT: true; the input reads as it did. -/
def fnReversed16Spec : ChangeSpec := { name := "fnReversed16", fn := fun _ => fun
  | [d1, d2] => { results := [.lit (.bool true)], args := [d1, d2] }
  | _ => none }
def fnReversed16Row : OpenClaim := { program := "ytlfgeloaeglmlaa", sum := "1e111621757f165c047e49b0e6472f8980b0e22fddceae83ca6ac82e3b0e5618", func := "lib-bitlathe/laws.FnReversed16", spec := "fnReversed16", unfollowed := true, recurses := true, apart := false }
def FnReversed16Said : Prop := fnReversed16Row.holds Try.pinned (OpenSpec.ofChange fnReversed16Spec)

/-- ITS FALSE NEIGHBOUR: 'it returns false'. Refute it at one input. -/
def fnReversed16Wrong : ChangeSpec := { name := "fnReversed16", fn := fun _ => fun
  | [d1, d2] => { results := [.lit (.bool false)], args := [d1, d2] }
  | _ => none }
def FnReversed16WrongFalsely : Prop := fnReversed16Row.holds Try.pinned (OpenSpec.ofChange fnReversed16Wrong)

/-- 'laws.FnLengths16': WHATEVER THE INPUT: true; the input reads as it did. -/
def fnLengths16Spec : ChangeSpec := { name := "fnLengths16", fn := fun _ => fun
  | [d1, d2] => { results := [.lit (.bool true)], args := [d1, d2] }
  | _ => none }
def fnLengths16Row : OpenClaim := { program := "ytlfgeloaeglmlaa", sum := "1e111621757f165c047e49b0e6472f8980b0e22fddceae83ca6ac82e3b0e5618", func := "lib-bitlathe/laws.FnLengths16", spec := "fnLengths16", apart := false }
def FnLengths16Said : Prop := fnLengths16Row.holds Try.pinned (OpenSpec.ofChange fnLengths16Spec)

/-- ITS FALSE NEIGHBOUR: 'it returns false'. Refute it at one input. -/
def fnLengths16Wrong : ChangeSpec := { name := "fnLengths16", fn := fun _ => fun
  | [d1, d2] => { results := [.lit (.bool false)], args := [d1, d2] }
  | _ => none }
def FnLengths16WrongFalsely : Prop := fnLengths16Row.holds Try.pinned (OpenSpec.ofChange fnLengths16Wrong)

/-- 'laws.FnOnes16': WHATEVER THE INPUT: true; the input reads as it did. -/
def fnOnes16Spec : ChangeSpec := { name := "fnOnes16", fn := fun _ => fun
  | [d1, d2, d3] => { results := [.lit (.bool true)], args := [d1, d2, d3] }
  | _ => none }
def fnOnes16Row : OpenClaim := { program := "ytlfgeloaeglmlaa", sum := "1e111621757f165c047e49b0e6472f8980b0e22fddceae83ca6ac82e3b0e5618", func := "lib-bitlathe/laws.FnOnes16", spec := "fnOnes16", unfollowed := true, recurses := true, apart := false }
def FnOnes16Said : Prop := fnOnes16Row.holds Try.pinned (OpenSpec.ofChange fnOnes16Spec)

/-- ITS FALSE NEIGHBOUR: 'it returns false'. Refute it at one input. -/
def fnOnes16Wrong : ChangeSpec := { name := "fnOnes16", fn := fun _ => fun
  | [d1, d2, d3] => { results := [.lit (.bool false)], args := [d1, d2, d3] }
  | _ => none }
def FnOnes16WrongFalsely : Prop := fnOnes16Row.holds Try.pinned (OpenSpec.ofChange fnOnes16Wrong)

/-- 'laws.FnRotationsByShifts16': WHATEVER THE INPUT: true; the input reads as it did. -/
def fnRotationsByShifts16Spec : ChangeSpec := { name := "fnRotationsByShifts16", fn := fun _ => fun
  | [d1, d2] => { results := [.lit (.bool true)], args := [d1, d2] }
  | _ => none }
def fnRotationsByShifts16Row : OpenClaim := { program := "ytlfgeloaeglmlaa", sum := "1e111621757f165c047e49b0e6472f8980b0e22fddceae83ca6ac82e3b0e5618", func := "lib-bitlathe/laws.FnRotationsByShifts16", spec := "fnRotationsByShifts16", apart := false }
def FnRotationsByShifts16Said : Prop := fnRotationsByShifts16Row.holds Try.pinned (OpenSpec.ofChange fnRotationsByShifts16Spec)

/-- ITS FALSE NEIGHBOUR: 'it returns false'. Refute it at one input. -/
def fnRotationsByShifts16Wrong : ChangeSpec := { name := "fnRotationsByShifts16", fn := fun _ => fun
  | [d1, d2] => { results := [.lit (.bool false)], args := [d1, d2] }
  | _ => none }
def FnRotationsByShifts16WrongFalsely : Prop := fnRotationsByShifts16Row.holds Try.pinned (OpenSpec.ofChange fnRotationsByShifts16Wrong)

/-- 'laws.FnBytesReversed16': WHATEVER THE INPUT: true; the input reads as it did. -/
def fnBytesReversed16Spec : ChangeSpec := { name := "fnBytesReversed16", fn := fun _ => fun
  | [d] => { results := [.lit (.bool true)], args := [d] }
  | _ => none }
def fnBytesReversed16Row : OpenClaim := { program := "ytlfgeloaeglmlaa", sum := "1e111621757f165c047e49b0e6472f8980b0e22fddceae83ca6ac82e3b0e5618", func := "lib-bitlathe/laws.FnBytesReversed16", spec := "fnBytesReversed16", apart := false }
def FnBytesReversed16Said : Prop := fnBytesReversed16Row.holds Try.pinned (OpenSpec.ofChange fnBytesReversed16Spec)

/-- ITS FALSE NEIGHBOUR: 'it returns false'. Refute it at one input. -/
def fnBytesReversed16Wrong : ChangeSpec := { name := "fnBytesReversed16", fn := fun _ => fun
  | [d] => { results := [.lit (.bool false)], args := [d] }
  | _ => none }
def FnBytesReversed16WrongFalsely : Prop := fnBytesReversed16Row.holds Try.pinned (OpenSpec.ofChange fnBytesReversed16Wrong)

/-- 'laws.FnRotations16': WHATEVER THE INPUT: true; the input reads as it did. -/
def fnRotations16Spec : ChangeSpec := { name := "fnRotations16", fn := fun _ => fun
  | [d1, d2, d3] => { results := [.lit (.bool true)], args := [d1, d2, d3] }
  | _ => none }
def fnRotations16Row : OpenClaim := { program := "ytlfgeloaeglmlaa", sum := "1e111621757f165c047e49b0e6472f8980b0e22fddceae83ca6ac82e3b0e5618", func := "lib-bitlathe/laws.FnRotations16", spec := "fnRotations16", unfollowed := true, recurses := true, apart := false }
def FnRotations16Said : Prop := fnRotations16Row.holds Try.pinned (OpenSpec.ofChange fnRotations16Spec)

/-- ITS FALSE NEIGHBOUR: 'it returns false'. Refute it at one input. -/
def fnRotations16Wrong : ChangeSpec := { name := "fnRotations16", fn := fun _ => fun
  | [d1, d2, d3] => { results := [.lit (.bool false)], args := [d1, d2, d3] }
  | _ => none }
def FnRotations16WrongFalsely : Prop := fnRotations16Row.holds Try.pinned (OpenSpec.ofChange fnRotations16Wrong)

/- THE SECOND FORM. 'bulk': how many values and letters a reading holds, each counted each time it is reached (what is shared counts as often as it is met; a slice's spare places count too). A statement '..UptoSaid' is the law's where the arguments, and the package variables that the reading takes, are together of bulk at most 1048576: NARROWER than '..Said'. Prove '..Said' where nothing that the law and all that it calls make is longer than what came in: it says more and counts as full. Else prove '..UptoSaid'. A law counts once. -/
mutual
def uptoBulk {H : Type} : DataW H → Nat
  | .lit (.string bytes) => bytes.length + 1
  | .lit _ => 1
  | .nil => 1
  | .ptr d => uptoBulk d + 1
  | .slice elems spare => uptoBulkAll elems + uptoBulkAll spare + 1
  | .agg parts => uptoBulkAll parts + 1
  | .iface _ d => uptoBulk d + 1
  | .map entries => uptoBulkEntries entries + 1
  | .held _ => 1
def uptoBulkAll {H : Type} : List (DataW H) → Nat
  | [] => 0
  | d :: r => uptoBulk d + uptoBulkAll r
def uptoBulkEntries {H : Type} : List (Lit × DataW H) → Nat
  | [] => 0
  | x :: r => uptoBulkEntry x + uptoBulkEntries r
def uptoBulkEntry {H : Type} : Lit × DataW H → Nat
  | (.string bytes, d) => bytes.length + uptoBulk d + 1
  | (_, d) => uptoBulk d + 1
 end
def uptoSmall : (H : Type) → List (DataW H) → Bool := fun _ ds => decide (uptoBulkAll ds ≤ 1048576)
def OpenSpec.upto (s : _root_.Go.ChangeSpec) : _root_.Go.OpenSpec := { _root_.Go.OpenSpec.ofChange s with cond := some uptoSmall }

/-- 'laws.FnOnesCount16', WHERE WHAT IT READS IS OF BULK AT MOST 1048576: true; the input reads as it did. -/
def fnOnesCount16UptoRow : OpenClaim := { program := "ytlfgeloaeglmlaa", sum := "1e111621757f165c047e49b0e6472f8980b0e22fddceae83ca6ac82e3b0e5618", func := "lib-bitlathe/laws.FnOnesCount16", spec := "fnOnesCount16", apart := false, narrowed := true }
def FnOnesCount16UptoSaid : Prop := fnOnesCount16UptoRow.holds Try.pinned (OpenSpec.upto fnOnesCount16Spec)

/-- 'laws.FnReverse16', WHERE WHAT IT READS IS OF BULK AT MOST 1048576: true; the input reads as it did. -/
def fnReverse16UptoRow : OpenClaim := { program := "ytlfgeloaeglmlaa", sum := "1e111621757f165c047e49b0e6472f8980b0e22fddceae83ca6ac82e3b0e5618", func := "lib-bitlathe/laws.FnReverse16", spec := "fnReverse16", apart := false, narrowed := true }
def FnReverse16UptoSaid : Prop := fnReverse16UptoRow.holds Try.pinned (OpenSpec.upto fnReverse16Spec)

/-- 'laws.FnReverseBytes16', WHERE WHAT IT READS IS OF BULK AT MOST 1048576: true; the input reads as it did. -/
def fnReverseBytes16UptoRow : OpenClaim := { program := "ytlfgeloaeglmlaa", sum := "1e111621757f165c047e49b0e6472f8980b0e22fddceae83ca6ac82e3b0e5618", func := "lib-bitlathe/laws.FnReverseBytes16", spec := "fnReverseBytes16", apart := false, narrowed := true }
def FnReverseBytes16UptoSaid : Prop := fnReverseBytes16UptoRow.holds Try.pinned (OpenSpec.upto fnReverseBytes16Spec)

/-- 'laws.FnRotateLeft16', WHERE WHAT IT READS IS OF BULK AT MOST 1048576: true; the input reads as it did. -/
def fnRotateLeft16UptoRow : OpenClaim := { program := "ytlfgeloaeglmlaa", sum := "1e111621757f165c047e49b0e6472f8980b0e22fddceae83ca6ac82e3b0e5618", func := "lib-bitlathe/laws.FnRotateLeft16", spec := "fnRotateLeft16", apart := false, narrowed := true }
def FnRotateLeft16UptoSaid : Prop := fnRotateLeft16UptoRow.holds Try.pinned (OpenSpec.upto fnRotateLeft16Spec)

/-- 'laws.FnLen16', WHERE WHAT IT READS IS OF BULK AT MOST 1048576: true; the input reads as it did. -/
def fnLen16UptoRow : OpenClaim := { program := "ytlfgeloaeglmlaa", sum := "1e111621757f165c047e49b0e6472f8980b0e22fddceae83ca6ac82e3b0e5618", func := "lib-bitlathe/laws.FnLen16", spec := "fnLen16", apart := false, narrowed := true }
def FnLen16UptoSaid : Prop := fnLen16UptoRow.holds Try.pinned (OpenSpec.upto fnLen16Spec)

/-- 'laws.FnLeadingZeros16', WHERE WHAT IT READS IS OF BULK AT MOST 1048576: true; the input reads as it did. -/
def fnLeadingZeros16UptoRow : OpenClaim := { program := "ytlfgeloaeglmlaa", sum := "1e111621757f165c047e49b0e6472f8980b0e22fddceae83ca6ac82e3b0e5618", func := "lib-bitlathe/laws.FnLeadingZeros16", spec := "fnLeadingZeros16", apart := false, narrowed := true }
def FnLeadingZeros16UptoSaid : Prop := fnLeadingZeros16UptoRow.holds Try.pinned (OpenSpec.upto fnLeadingZeros16Spec)

/-- 'laws.FnReversed16', WHERE WHAT IT READS IS OF BULK AT MOST 1048576: true; the input reads as it did. -/
def fnReversed16UptoRow : OpenClaim := { program := "ytlfgeloaeglmlaa", sum := "1e111621757f165c047e49b0e6472f8980b0e22fddceae83ca6ac82e3b0e5618", func := "lib-bitlathe/laws.FnReversed16", spec := "fnReversed16", unfollowed := true, recurses := true, apart := false, narrowed := true }
def FnReversed16UptoSaid : Prop := fnReversed16UptoRow.holds Try.pinned (OpenSpec.upto fnReversed16Spec)

/-- 'laws.FnLengths16', WHERE WHAT IT READS IS OF BULK AT MOST 1048576: true; the input reads as it did. -/
def fnLengths16UptoRow : OpenClaim := { program := "ytlfgeloaeglmlaa", sum := "1e111621757f165c047e49b0e6472f8980b0e22fddceae83ca6ac82e3b0e5618", func := "lib-bitlathe/laws.FnLengths16", spec := "fnLengths16", apart := false, narrowed := true }
def FnLengths16UptoSaid : Prop := fnLengths16UptoRow.holds Try.pinned (OpenSpec.upto fnLengths16Spec)

/-- 'laws.FnOnes16', WHERE WHAT IT READS IS OF BULK AT MOST 1048576: true; the input reads as it did. -/
def fnOnes16UptoRow : OpenClaim := { program := "ytlfgeloaeglmlaa", sum := "1e111621757f165c047e49b0e6472f8980b0e22fddceae83ca6ac82e3b0e5618", func := "lib-bitlathe/laws.FnOnes16", spec := "fnOnes16", unfollowed := true, recurses := true, apart := false, narrowed := true }
def FnOnes16UptoSaid : Prop := fnOnes16UptoRow.holds Try.pinned (OpenSpec.upto fnOnes16Spec)

/-- 'laws.FnRotationsByShifts16', WHERE WHAT IT READS IS OF BULK AT MOST 1048576: true; the input reads as it did. -/
def fnRotationsByShifts16UptoRow : OpenClaim := { program := "ytlfgeloaeglmlaa", sum := "1e111621757f165c047e49b0e6472f8980b0e22fddceae83ca6ac82e3b0e5618", func := "lib-bitlathe/laws.FnRotationsByShifts16", spec := "fnRotationsByShifts16", apart := false, narrowed := true }
def FnRotationsByShifts16UptoSaid : Prop := fnRotationsByShifts16UptoRow.holds Try.pinned (OpenSpec.upto fnRotationsByShifts16Spec)

/-- 'laws.FnBytesReversed16', WHERE WHAT IT READS IS OF BULK AT MOST 1048576: true; the input reads as it did. -/
def fnBytesReversed16UptoRow : OpenClaim := { program := "ytlfgeloaeglmlaa", sum := "1e111621757f165c047e49b0e6472f8980b0e22fddceae83ca6ac82e3b0e5618", func := "lib-bitlathe/laws.FnBytesReversed16", spec := "fnBytesReversed16", apart := false, narrowed := true }
def FnBytesReversed16UptoSaid : Prop := fnBytesReversed16UptoRow.holds Try.pinned (OpenSpec.upto fnBytesReversed16Spec)

/-- 'laws.FnRotations16', WHERE WHAT IT READS IS OF BULK AT MOST 1048576: true; the input reads as it did. -/
def fnRotations16UptoRow : OpenClaim := { program := "ytlfgeloaeglmlaa", sum := "1e111621757f165c047e49b0e6472f8980b0e22fddceae83ca6ac82e3b0e5618", func := "lib-bitlathe/laws.FnRotations16", spec := "fnRotations16", unfollowed := true, recurses := true, apart := false, narrowed := true }
def FnRotations16UptoSaid : Prop := fnRotations16UptoRow.holds Try.pinned (OpenSpec.upto fnRotations16Spec)

end Rows
end Go.Proofs.Ytlfgeloaeglmlaa

/-
  No cell of these rows narrows 'for every input' (looked for: loops, veiled, ifaces, maps, wideKeys, modest, calm, conditions, laid).
  DERIVED. THE GIVEN ROWS OF THIS SEAT. 12 by the template 'for every input the law returns true; each argument reads behind the call as it read before'; 0 by the template 'total and deterministic' (their statements: YtiglkjpabpeogaaTotals.lean).
  GIVEN WITH THE SEED: the statements are not yours to turn. If you find one false, say at which input.
  Laid BY PROGRAM, IN A SANDBOX (cutbox-rows.mjs): the forced cells as the released guide's own fill.sh prints them over the translation 16d384014d490ad3… (all of the seat's roots in one cut). By AI agents, Wed Nov 11 2026. No macro, syntax, notation, axiom, sorry.
-/
import Derived.Test.YtiglkjpabpeogaaChecked
import GoSem.Claim
import GoSem.ClaimJoined
import GoSem.ClaimMapViews
import Derived.JoinedTies
import Derived.KernelRfl
namespace Go.Proofs.Ytiglkjpabpeogaa
/- THE CELL 'sum', in the pinned program and in every row, IS THE sha256 OF THE DUMP (.gsa) THAT YtiglkjpabpeogaaProg.lean LOADS. Nothing in Lean hashes anything: it is a label: what it is worth is what the hold of that sum in a sandbox is worth. -/
noncomputable def Try.pinned : Pinned := { name := "ytiglkjpabpeogaa", sum := "16d384014d490ad32d680c78b5b340d7820eab00f508056049ede2a649586a51", checked := Try.checked }
namespace Rows
def none {H : Type} : Left H := { results := [], args := [] }

/-- 'laws.FnRotateLeft64': WHATEVER THE INPUT: true; the input reads as it did. -/
def fnRotateLeft64Spec : ChangeSpec := { name := "fnRotateLeft64", fn := fun _ => fun
  | [d1, d2] => { results := [.lit (.bool true)], args := [d1, d2] }
  | _ => none }
def fnRotateLeft64Row : OpenClaim := { program := "ytiglkjpabpeogaa", sum := "16d384014d490ad32d680c78b5b340d7820eab00f508056049ede2a649586a51", func := "lib-bitlathe/laws.FnRotateLeft64", spec := "fnRotateLeft64", apart := false }
def FnRotateLeft64Said : Prop := fnRotateLeft64Row.holds Try.pinned (OpenSpec.ofChange fnRotateLeft64Spec)

/-- ITS FALSE NEIGHBOUR: 'it returns false'. Refute it at one input. -/
def fnRotateLeft64Wrong : ChangeSpec := { name := "fnRotateLeft64", fn := fun _ => fun
  | [d1, d2] => { results := [.lit (.bool false)], args := [d1, d2] }
  | _ => none }
def FnRotateLeft64WrongFalsely : Prop := fnRotateLeft64Row.holds Try.pinned (OpenSpec.ofChange fnRotateLeft64Wrong)

/-- 'laws.FnReverseBytes64': WHATEVER THE INPUT: true; the input reads as it did. -/
def fnReverseBytes64Spec : ChangeSpec := { name := "fnReverseBytes64", fn := fun _ => fun
  | [d] => { results := [.lit (.bool true)], args := [d] }
  | _ => none }
def fnReverseBytes64Row : OpenClaim := { program := "ytiglkjpabpeogaa", sum := "16d384014d490ad32d680c78b5b340d7820eab00f508056049ede2a649586a51", func := "lib-bitlathe/laws.FnReverseBytes64", spec := "fnReverseBytes64", apart := false }
def FnReverseBytes64Said : Prop := fnReverseBytes64Row.holds Try.pinned (OpenSpec.ofChange fnReverseBytes64Spec)

/-- ITS FALSE NEIGHBOUR: 'it returns false'. Refute it at one input. -/
def fnReverseBytes64Wrong : ChangeSpec := { name := "fnReverseBytes64", fn := fun _ => fun
  | [d] => { results := [.lit (.bool false)], args := [d] }
  | _ => none }
def FnReverseBytes64WrongFalsely : Prop := fnReverseBytes64Row.holds Try.pinned (OpenSpec.ofChange fnReverseBytes64Wrong)

/-- 'laws.FnReverse64': WHATEVER THE INPUT: true; the input reads as it did. -/
def fnReverse64Spec : ChangeSpec := { name := "fnReverse64", fn := fun _ => fun
  | [d] => { results := [.lit (.bool true)], args := [d] }
  | _ => none }
def fnReverse64Row : OpenClaim := { program := "ytiglkjpabpeogaa", sum := "16d384014d490ad32d680c78b5b340d7820eab00f508056049ede2a649586a51", func := "lib-bitlathe/laws.FnReverse64", spec := "fnReverse64", apart := false }
def FnReverse64Said : Prop := fnReverse64Row.holds Try.pinned (OpenSpec.ofChange fnReverse64Spec)

/-- ITS FALSE NEIGHBOUR: 'it returns false'. Refute it at one input. -/
def fnReverse64Wrong : ChangeSpec := { name := "fnReverse64", fn := fun _ => fun
  | [d] => { results := [.lit (.bool false)], args := [d] }
  | _ => none }
def FnReverse64WrongFalsely : Prop := fnReverse64Row.holds Try.pinned (OpenSpec.ofChange fnReverse64Wrong)

/-- 'laws.FnLen64': WHATEVER THE INPUT: true; the input reads as it did. -/
def fnLen64Spec : ChangeSpec := { name := "fnLen64", fn := fun _ => fun
  | [d] => { results := [.lit (.bool true)], args := [d] }
  | _ => none }
def fnLen64Row : OpenClaim := { program := "ytiglkjpabpeogaa", sum := "16d384014d490ad32d680c78b5b340d7820eab00f508056049ede2a649586a51", func := "lib-bitlathe/laws.FnLen64", spec := "fnLen64", apart := false }
def FnLen64Said : Prop := fnLen64Row.holds Try.pinned (OpenSpec.ofChange fnLen64Spec)

/-- ITS FALSE NEIGHBOUR: 'it returns false'. Refute it at one input. -/
def fnLen64Wrong : ChangeSpec := { name := "fnLen64", fn := fun _ => fun
  | [d] => { results := [.lit (.bool false)], args := [d] }
  | _ => none }
def FnLen64WrongFalsely : Prop := fnLen64Row.holds Try.pinned (OpenSpec.ofChange fnLen64Wrong)

/-- 'laws.FnLeadingZeros64': WHATEVER THE INPUT: true; the input reads as it did. -/
def fnLeadingZeros64Spec : ChangeSpec := { name := "fnLeadingZeros64", fn := fun _ => fun
  | [d] => { results := [.lit (.bool true)], args := [d] }
  | _ => none }
def fnLeadingZeros64Row : OpenClaim := { program := "ytiglkjpabpeogaa", sum := "16d384014d490ad32d680c78b5b340d7820eab00f508056049ede2a649586a51", func := "lib-bitlathe/laws.FnLeadingZeros64", spec := "fnLeadingZeros64", apart := false }
def FnLeadingZeros64Said : Prop := fnLeadingZeros64Row.holds Try.pinned (OpenSpec.ofChange fnLeadingZeros64Spec)

/-- ITS FALSE NEIGHBOUR: 'it returns false'. Refute it at one input. -/
def fnLeadingZeros64Wrong : ChangeSpec := { name := "fnLeadingZeros64", fn := fun _ => fun
  | [d] => { results := [.lit (.bool false)], args := [d] }
  | _ => none }
def FnLeadingZeros64WrongFalsely : Prop := fnLeadingZeros64Row.holds Try.pinned (OpenSpec.ofChange fnLeadingZeros64Wrong)

/-- 'laws.FnLengths64': WHATEVER THE INPUT: true; the input reads as it did. -/
def fnLengths64Spec : ChangeSpec := { name := "fnLengths64", fn := fun _ => fun
  | [d1, d2] => { results := [.lit (.bool true)], args := [d1, d2] }
  | _ => none }
def fnLengths64Row : OpenClaim := { program := "ytiglkjpabpeogaa", sum := "16d384014d490ad32d680c78b5b340d7820eab00f508056049ede2a649586a51", func := "lib-bitlathe/laws.FnLengths64", spec := "fnLengths64", apart := false }
def FnLengths64Said : Prop := fnLengths64Row.holds Try.pinned (OpenSpec.ofChange fnLengths64Spec)

/-- ITS FALSE NEIGHBOUR: 'it returns false'. Refute it at one input. -/
def fnLengths64Wrong : ChangeSpec := { name := "fnLengths64", fn := fun _ => fun
  | [d1, d2] => { results := [.lit (.bool false)], args := [d1, d2] }
  | _ => none }
def FnLengths64WrongFalsely : Prop := fnLengths64Row.holds Try.pinned (OpenSpec.ofChange fnLengths64Wrong)

/-- 'laws.FnBytesReversed64': WHATEVER THE INPUT: true; the input reads as it did. -/
def fnBytesReversed64Spec : ChangeSpec := { name := "fnBytesReversed64", fn := fun _ => fun
  | [d] => { results := [.lit (.bool true)], args := [d] }
  | _ => none }
def fnBytesReversed64Row : OpenClaim := { program := "ytiglkjpabpeogaa", sum := "16d384014d490ad32d680c78b5b340d7820eab00f508056049ede2a649586a51", func := "lib-bitlathe/laws.FnBytesReversed64", spec := "fnBytesReversed64", apart := false }
def FnBytesReversed64Said : Prop := fnBytesReversed64Row.holds Try.pinned (OpenSpec.ofChange fnBytesReversed64Spec)

/-- ITS FALSE NEIGHBOUR: 'it returns false'. Refute it at one input. -/
def fnBytesReversed64Wrong : ChangeSpec := { name := "fnBytesReversed64", fn := fun _ => fun
  | [d] => { results := [.lit (.bool false)], args := [d] }
  | _ => none }
def FnBytesReversed64WrongFalsely : Prop := fnBytesReversed64Row.holds Try.pinned (OpenSpec.ofChange fnBytesReversed64Wrong)

/-- 'laws.FnRotationsByShifts64': WHATEVER THE INPUT: true; the input reads as it did. -/
def fnRotationsByShifts64Spec : ChangeSpec := { name := "fnRotationsByShifts64", fn := fun _ => fun
  | [d1, d2] => { results := [.lit (.bool true)], args := [d1, d2] }
  | _ => none }
def fnRotationsByShifts64Row : OpenClaim := { program := "ytiglkjpabpeogaa", sum := "16d384014d490ad32d680c78b5b340d7820eab00f508056049ede2a649586a51", func := "lib-bitlathe/laws.FnRotationsByShifts64", spec := "fnRotationsByShifts64", apart := false }
def FnRotationsByShifts64Said : Prop := fnRotationsByShifts64Row.holds Try.pinned (OpenSpec.ofChange fnRotationsByShifts64Spec)

/-- ITS FALSE NEIGHBOUR: 'it returns false'. Refute it at one input. -/
def fnRotationsByShifts64Wrong : ChangeSpec := { name := "fnRotationsByShifts64", fn := fun _ => fun
  | [d1, d2] => { results := [.lit (.bool false)], args := [d1, d2] }
  | _ => none }
def FnRotationsByShifts64WrongFalsely : Prop := fnRotationsByShifts64Row.holds Try.pinned (OpenSpec.ofChange fnRotationsByShifts64Wrong)

/-- 'laws.FnOnesCount64': WHATEVER THE INPUT: true; the input reads as it did. -/
def fnOnesCount64Spec : ChangeSpec := { name := "fnOnesCount64", fn := fun _ => fun
  | [d] => { results := [.lit (.bool true)], args := [d] }
  | _ => none }
def fnOnesCount64Row : OpenClaim := { program := "ytiglkjpabpeogaa", sum := "16d384014d490ad32d680c78b5b340d7820eab00f508056049ede2a649586a51", func := "lib-bitlathe/laws.FnOnesCount64", spec := "fnOnesCount64", apart := false }
def FnOnesCount64Said : Prop := fnOnesCount64Row.holds Try.pinned (OpenSpec.ofChange fnOnesCount64Spec)

/-- ITS FALSE NEIGHBOUR: 'it returns false'. Refute it at one input. -/
def fnOnesCount64Wrong : ChangeSpec := { name := "fnOnesCount64", fn := fun _ => fun
  | [d] => { results := [.lit (.bool false)], args := [d] }
  | _ => none }
def FnOnesCount64WrongFalsely : Prop := fnOnesCount64Row.holds Try.pinned (OpenSpec.ofChange fnOnesCount64Wrong)

/-- 'laws.FnReversed64': WHATEVER THE INPUT: true; the input reads as it did. -/
def fnReversed64Spec : ChangeSpec := { name := "fnReversed64", fn := fun _ => fun
  | [d1, d2] => { results := [.lit (.bool true)], args := [d1, d2] }
  | _ => none }
def fnReversed64Row : OpenClaim := { program := "ytiglkjpabpeogaa", sum := "16d384014d490ad32d680c78b5b340d7820eab00f508056049ede2a649586a51", func := "lib-bitlathe/laws.FnReversed64", spec := "fnReversed64", unfollowed := true, recurses := true, apart := false }
def FnReversed64Said : Prop := fnReversed64Row.holds Try.pinned (OpenSpec.ofChange fnReversed64Spec)

/-- ITS FALSE NEIGHBOUR: 'it returns false'. Refute it at one input. -/
def fnReversed64Wrong : ChangeSpec := { name := "fnReversed64", fn := fun _ => fun
  | [d1, d2] => { results := [.lit (.bool false)], args := [d1, d2] }
  | _ => none }
def FnReversed64WrongFalsely : Prop := fnReversed64Row.holds Try.pinned (OpenSpec.ofChange fnReversed64Wrong)

/-- 'laws.FnOnes64': WHATEVER THE INPUT: true; the input reads as it did. -/
def fnOnes64Spec : ChangeSpec := { name := "fnOnes64", fn := fun _ => fun
  | [d1, d2, d3] => { results := [.lit (.bool true)], args := [d1, d2, d3] }
  | _ => none }
def fnOnes64Row : OpenClaim := { program := "ytiglkjpabpeogaa", sum := "16d384014d490ad32d680c78b5b340d7820eab00f508056049ede2a649586a51", func := "lib-bitlathe/laws.FnOnes64", spec := "fnOnes64", unfollowed := true, recurses := true, apart := false }
def FnOnes64Said : Prop := fnOnes64Row.holds Try.pinned (OpenSpec.ofChange fnOnes64Spec)

/-- ITS FALSE NEIGHBOUR: 'it returns false'. Refute it at one input. -/
def fnOnes64Wrong : ChangeSpec := { name := "fnOnes64", fn := fun _ => fun
  | [d1, d2, d3] => { results := [.lit (.bool false)], args := [d1, d2, d3] }
  | _ => none }
def FnOnes64WrongFalsely : Prop := fnOnes64Row.holds Try.pinned (OpenSpec.ofChange fnOnes64Wrong)

/-- 'laws.FnRotations64': WHATEVER THE INPUT: true; the input reads as it did. -/
def fnRotations64Spec : ChangeSpec := { name := "fnRotations64", fn := fun _ => fun
  | [d1, d2, d3] => { results := [.lit (.bool true)], args := [d1, d2, d3] }
  | _ => none }
def fnRotations64Row : OpenClaim := { program := "ytiglkjpabpeogaa", sum := "16d384014d490ad32d680c78b5b340d7820eab00f508056049ede2a649586a51", func := "lib-bitlathe/laws.FnRotations64", spec := "fnRotations64", unfollowed := true, recurses := true, apart := false }
def FnRotations64Said : Prop := fnRotations64Row.holds Try.pinned (OpenSpec.ofChange fnRotations64Spec)

/-- ITS FALSE NEIGHBOUR: 'it returns false'. Refute it at one input. -/
def fnRotations64Wrong : ChangeSpec := { name := "fnRotations64", fn := fun _ => fun
  | [d1, d2, d3] => { results := [.lit (.bool false)], args := [d1, d2, d3] }
  | _ => none }
def FnRotations64WrongFalsely : Prop := fnRotations64Row.holds Try.pinned (OpenSpec.ofChange fnRotations64Wrong)

/- THE SECOND FORM. 'bulk': how many values and letters a reading holds, each counted each time it is reached (what is shared counts as often as it is met; a slice's spare places count too). A statement '..UptoSaid' is the law's where the arguments, and the package variables that the reading takes, are together of bulk at most 1048576: NARROWER than '..Said'. Prove '..Said' where nothing that the law and all that it calls make is longer than what came in: it says more and counts as full. Else prove '..UptoSaid'. A law counts once. -/
mutual
def uptoBulk {H : Type} : DataW H → Nat
  | .lit (.string bytes) => bytes.length + 1
  | .lit _ => 1
  | .nil => 1
  | .ptr d => uptoBulk d + 1
  | .slice elems spare => uptoBulkAll elems + uptoBulkAll spare + 1
  | .agg parts => uptoBulkAll parts + 1
  | .iface _ d => uptoBulk d + 1
  | .map entries => uptoBulkEntries entries + 1
  | .held _ => 1
def uptoBulkAll {H : Type} : List (DataW H) → Nat
  | [] => 0
  | d :: r => uptoBulk d + uptoBulkAll r
def uptoBulkEntries {H : Type} : List (Lit × DataW H) → Nat
  | [] => 0
  | x :: r => uptoBulkEntry x + uptoBulkEntries r
def uptoBulkEntry {H : Type} : Lit × DataW H → Nat
  | (.string bytes, d) => bytes.length + uptoBulk d + 1
  | (_, d) => uptoBulk d + 1
 end
def uptoSmall : (H : Type) → List (DataW H) → Bool := fun _ ds => decide (uptoBulkAll ds ≤ 1048576)
def OpenSpec.upto (s : _root_.Go.ChangeSpec) : _root_.Go.OpenSpec := { _root_.Go.OpenSpec.ofChange s with cond := some uptoSmall }

/-- 'laws.FnRotateLeft64', WHERE WHAT IT READS IS OF BULK AT MOST 1048576: true; the input reads as it did. -/
def fnRotateLeft64UptoRow : OpenClaim := { program := "ytiglkjpabpeogaa", sum := "16d384014d490ad32d680c78b5b340d7820eab00f508056049ede2a649586a51", func := "lib-bitlathe/laws.FnRotateLeft64", spec := "fnRotateLeft64", apart := false, narrowed := true }
def FnRotateLeft64UptoSaid : Prop := fnRotateLeft64UptoRow.holds Try.pinned (OpenSpec.upto fnRotateLeft64Spec)

/-- 'laws.FnReverseBytes64', WHERE WHAT IT READS IS OF BULK AT MOST 1048576: true; the input reads as it did. -/
def fnReverseBytes64UptoRow : OpenClaim := { program := "ytiglkjpabpeogaa", sum := "16d384014d490ad32d680c78b5b340d7820eab00f508056049ede2a649586a51", func := "lib-bitlathe/laws.FnReverseBytes64", spec := "fnReverseBytes64", apart := false, narrowed := true }
def FnReverseBytes64UptoSaid : Prop := fnReverseBytes64UptoRow.holds Try.pinned (OpenSpec.upto fnReverseBytes64Spec)

/-- 'laws.FnReverse64', WHERE WHAT IT READS IS OF BULK AT MOST 1048576: true; the input reads as it did. -/
def fnReverse64UptoRow : OpenClaim := { program := "ytiglkjpabpeogaa", sum := "16d384014d490ad32d680c78b5b340d7820eab00f508056049ede2a649586a51", func := "lib-bitlathe/laws.FnReverse64", spec := "fnReverse64", apart := false, narrowed := true }
def FnReverse64UptoSaid : Prop := fnReverse64UptoRow.holds Try.pinned (OpenSpec.upto fnReverse64Spec)

/-- 'laws.FnLen64', WHERE WHAT IT READS IS OF BULK AT MOST 1048576: true; the input reads as it did. -/
def fnLen64UptoRow : OpenClaim := { program := "ytiglkjpabpeogaa", sum := "16d384014d490ad32d680c78b5b340d7820eab00f508056049ede2a649586a51", func := "lib-bitlathe/laws.FnLen64", spec := "fnLen64", apart := false, narrowed := true }
def FnLen64UptoSaid : Prop := fnLen64UptoRow.holds Try.pinned (OpenSpec.upto fnLen64Spec)

/-- 'laws.FnLeadingZeros64', WHERE WHAT IT READS IS OF BULK AT MOST 1048576: true; the input reads as it did. -/
def fnLeadingZeros64UptoRow : OpenClaim := { program := "ytiglkjpabpeogaa", sum := "16d384014d490ad32d680c78b5b340d7820eab00f508056049ede2a649586a51", func := "lib-bitlathe/laws.FnLeadingZeros64", spec := "fnLeadingZeros64", apart := false, narrowed := true }
def FnLeadingZeros64UptoSaid : Prop := fnLeadingZeros64UptoRow.holds Try.pinned (OpenSpec.upto fnLeadingZeros64Spec)

/-- 'laws.FnLengths64', WHERE WHAT IT READS IS OF BULK AT MOST 1048576: true; the input reads as it did. -/
def fnLengths64UptoRow : OpenClaim := { program := "ytiglkjpabpeogaa", sum := "16d384014d490ad32d680c78b5b340d7820eab00f508056049ede2a649586a51", func := "lib-bitlathe/laws.FnLengths64", spec := "fnLengths64", apart := false, narrowed := true }
def FnLengths64UptoSaid : Prop := fnLengths64UptoRow.holds Try.pinned (OpenSpec.upto fnLengths64Spec)

/-- 'laws.FnBytesReversed64', WHERE WHAT IT READS IS OF BULK AT MOST 1048576: true; the input reads as it did. -/
def fnBytesReversed64UptoRow : OpenClaim := { program := "ytiglkjpabpeogaa", sum := "16d384014d490ad32d680c78b5b340d7820eab00f508056049ede2a649586a51", func := "lib-bitlathe/laws.FnBytesReversed64", spec := "fnBytesReversed64", apart := false, narrowed := true }
def FnBytesReversed64UptoSaid : Prop := fnBytesReversed64UptoRow.holds Try.pinned (OpenSpec.upto fnBytesReversed64Spec)

/-- 'laws.FnRotationsByShifts64', WHERE WHAT IT READS IS OF BULK AT MOST 1048576: true; the input reads as it did. -/
def fnRotationsByShifts64UptoRow : OpenClaim := { program := "ytiglkjpabpeogaa", sum := "16d384014d490ad32d680c78b5b340d7820eab00f508056049ede2a649586a51", func := "lib-bitlathe/laws.FnRotationsByShifts64", spec := "fnRotationsByShifts64", apart := false, narrowed := true }
def FnRotationsByShifts64UptoSaid : Prop := fnRotationsByShifts64UptoRow.holds Try.pinned (OpenSpec.upto fnRotationsByShifts64Spec)

/-- 'laws.FnOnesCount64', WHERE WHAT IT READS IS OF BULK AT MOST 1048576: true; the input reads as it did. -/
def fnOnesCount64UptoRow : OpenClaim := { program := "ytiglkjpabpeogaa", sum := "16d384014d490ad32d680c78b5b340d7820eab00f508056049ede2a649586a51", func := "lib-bitlathe/laws.FnOnesCount64", spec := "fnOnesCount64", apart := false, narrowed := true }
def FnOnesCount64UptoSaid : Prop := fnOnesCount64UptoRow.holds Try.pinned (OpenSpec.upto fnOnesCount64Spec)

/-- 'laws.FnReversed64', WHERE WHAT IT READS IS OF BULK AT MOST 1048576: true; the input reads as it did. -/
def fnReversed64UptoRow : OpenClaim := { program := "ytiglkjpabpeogaa", sum := "16d384014d490ad32d680c78b5b340d7820eab00f508056049ede2a649586a51", func := "lib-bitlathe/laws.FnReversed64", spec := "fnReversed64", unfollowed := true, recurses := true, apart := false, narrowed := true }
def FnReversed64UptoSaid : Prop := fnReversed64UptoRow.holds Try.pinned (OpenSpec.upto fnReversed64Spec)

/-- 'laws.FnOnes64', WHERE WHAT IT READS IS OF BULK AT MOST 1048576: true; the input reads as it did. -/
def fnOnes64UptoRow : OpenClaim := { program := "ytiglkjpabpeogaa", sum := "16d384014d490ad32d680c78b5b340d7820eab00f508056049ede2a649586a51", func := "lib-bitlathe/laws.FnOnes64", spec := "fnOnes64", unfollowed := true, recurses := true, apart := false, narrowed := true }
def FnOnes64UptoSaid : Prop := fnOnes64UptoRow.holds Try.pinned (OpenSpec.upto fnOnes64Spec)

/-- 'laws.FnRotations64', WHERE WHAT IT READS IS OF BULK AT MOST 1048576: true; the input reads as it did. -/
def fnRotations64UptoRow : OpenClaim := { program := "ytiglkjpabpeogaa", sum := "16d384014d490ad32d680c78b5b340d7820eab00f508056049ede2a649586a51", func := "lib-bitlathe/laws.FnRotations64", spec := "fnRotations64", unfollowed := true, recurses := true, apart := false, narrowed := true }
def FnRotations64UptoSaid : Prop := fnRotations64UptoRow.holds Try.pinned (OpenSpec.upto fnRotations64Spec)

end Rows
end Go.Proofs.Ytiglkjpabpeogaa

/-
  No cell of these rows narrows 'for every input' (looked for: loops, veiled, ifaces, maps, wideKeys, modest, calm, conditions, laid).
  DERIVED. THE GIVEN ROWS OF THIS SEAT. 12 by the template 'for every input the law returns true; each argument reads behind the call as it read before'; 0 by the template 'total and deterministic' (their statements: YtfeahfdepikodaaTotals.lean).
  GIVEN WITH THE SEED: the statements are not yours to turn. If you find one false, say at which input.
  Laid BY PROGRAM, IN A SANDBOX (cutbox-rows.mjs): the forced cells as the released guide's own fill.sh prints them over the translation 214133a1dc3ae2b6… (all of the seat's roots in one cut). By AI agents, Wed Nov 11 2026. No macro, syntax, notation, axiom, sorry.
-/
import Derived.Test.YtfeahfdepikodaaChecked
import GoSem.Claim
import GoSem.ClaimJoined
import GoSem.ClaimMapViews
import Derived.JoinedTies
import Derived.KernelRfl
namespace Go.Proofs.Ytfeahfdepikodaa
/- THE CELL 'sum', in the pinned program and in every row, IS THE sha256 OF THE DUMP (.gsa) THAT YtfeahfdepikodaaProg.lean LOADS. Nothing in Lean hashes anything: it is a label: what it is worth is what the hold of that sum in a sandbox is worth. -/
noncomputable def Try.pinned : Pinned := { name := "ytfeahfdepikodaa", sum := "214133a1dc3ae2b632ccef2ec915af12953946fc924c4971d00d87545301301e", checked := Try.checked }
namespace Rows
def none {H : Type} : Left H := { results := [], args := [] }

/-- 'laws.FnOnesCount32': WHATEVER THE INPUT: true; the input reads as it did. -/
def fnOnesCount32Spec : ChangeSpec := { name := "fnOnesCount32", fn := fun _ => fun
  | [d] => { results := [.lit (.bool true)], args := [d] }
  | _ => none }
def fnOnesCount32Row : OpenClaim := { program := "ytfeahfdepikodaa", sum := "214133a1dc3ae2b632ccef2ec915af12953946fc924c4971d00d87545301301e", func := "lib-bitlathe/laws.FnOnesCount32", spec := "fnOnesCount32", apart := false }
def FnOnesCount32Said : Prop := fnOnesCount32Row.holds Try.pinned (OpenSpec.ofChange fnOnesCount32Spec)

/-- ITS FALSE NEIGHBOUR: 'it returns false'. Refute it at one input. -/
def fnOnesCount32Wrong : ChangeSpec := { name := "fnOnesCount32", fn := fun _ => fun
  | [d] => { results := [.lit (.bool false)], args := [d] }
  | _ => none }
def FnOnesCount32WrongFalsely : Prop := fnOnesCount32Row.holds Try.pinned (OpenSpec.ofChange fnOnesCount32Wrong)

/-- 'laws.FnReverseBytes32': WHATEVER THE INPUT: true; the input reads as it did. -/
def fnReverseBytes32Spec : ChangeSpec := { name := "fnReverseBytes32", fn := fun _ => fun
  | [d] => { results := [.lit (.bool true)], args := [d] }
  | _ => none }
def fnReverseBytes32Row : OpenClaim := { program := "ytfeahfdepikodaa", sum := "214133a1dc3ae2b632ccef2ec915af12953946fc924c4971d00d87545301301e", func := "lib-bitlathe/laws.FnReverseBytes32", spec := "fnReverseBytes32", apart := false }
def FnReverseBytes32Said : Prop := fnReverseBytes32Row.holds Try.pinned (OpenSpec.ofChange fnReverseBytes32Spec)

/-- ITS FALSE NEIGHBOUR: 'it returns false'. Refute it at one input. -/
def fnReverseBytes32Wrong : ChangeSpec := { name := "fnReverseBytes32", fn := fun _ => fun
  | [d] => { results := [.lit (.bool false)], args := [d] }
  | _ => none }
def FnReverseBytes32WrongFalsely : Prop := fnReverseBytes32Row.holds Try.pinned (OpenSpec.ofChange fnReverseBytes32Wrong)

/-- 'laws.FnRotateLeft32': WHATEVER THE INPUT: true; the input reads as it did. -/
def fnRotateLeft32Spec : ChangeSpec := { name := "fnRotateLeft32", fn := fun _ => fun
  | [d1, d2] => { results := [.lit (.bool true)], args := [d1, d2] }
  | _ => none }
def fnRotateLeft32Row : OpenClaim := { program := "ytfeahfdepikodaa", sum := "214133a1dc3ae2b632ccef2ec915af12953946fc924c4971d00d87545301301e", func := "lib-bitlathe/laws.FnRotateLeft32", spec := "fnRotateLeft32", apart := false }
def FnRotateLeft32Said : Prop := fnRotateLeft32Row.holds Try.pinned (OpenSpec.ofChange fnRotateLeft32Spec)

/-- ITS FALSE NEIGHBOUR: 'it returns false'. Refute it at one input. -/
def fnRotateLeft32Wrong : ChangeSpec := { name := "fnRotateLeft32", fn := fun _ => fun
  | [d1, d2] => { results := [.lit (.bool false)], args := [d1, d2] }
  | _ => none }
def FnRotateLeft32WrongFalsely : Prop := fnRotateLeft32Row.holds Try.pinned (OpenSpec.ofChange fnRotateLeft32Wrong)

/-- 'laws.FnLen32': WHATEVER THE INPUT: true; the input reads as it did. -/
def fnLen32Spec : ChangeSpec := { name := "fnLen32", fn := fun _ => fun
  | [d] => { results := [.lit (.bool true)], args := [d] }
  | _ => none }
def fnLen32Row : OpenClaim := { program := "ytfeahfdepikodaa", sum := "214133a1dc3ae2b632ccef2ec915af12953946fc924c4971d00d87545301301e", func := "lib-bitlathe/laws.FnLen32", spec := "fnLen32", apart := false }
def FnLen32Said : Prop := fnLen32Row.holds Try.pinned (OpenSpec.ofChange fnLen32Spec)

/-- ITS FALSE NEIGHBOUR: 'it returns false'. Refute it at one input. -/
def fnLen32Wrong : ChangeSpec := { name := "fnLen32", fn := fun _ => fun
  | [d] => { results := [.lit (.bool false)], args := [d] }
  | _ => none }
def FnLen32WrongFalsely : Prop := fnLen32Row.holds Try.pinned (OpenSpec.ofChange fnLen32Wrong)

/-- 'laws.FnLeadingZeros32': WHATEVER THE INPUT: true; the input reads as it did. -/
def fnLeadingZeros32Spec : ChangeSpec := { name := "fnLeadingZeros32", fn := fun _ => fun
  | [d] => { results := [.lit (.bool true)], args := [d] }
  | _ => none }
def fnLeadingZeros32Row : OpenClaim := { program := "ytfeahfdepikodaa", sum := "214133a1dc3ae2b632ccef2ec915af12953946fc924c4971d00d87545301301e", func := "lib-bitlathe/laws.FnLeadingZeros32", spec := "fnLeadingZeros32", apart := false }
def FnLeadingZeros32Said : Prop := fnLeadingZeros32Row.holds Try.pinned (OpenSpec.ofChange fnLeadingZeros32Spec)

/-- ITS FALSE NEIGHBOUR: 'it returns false'. Refute it at one input. -/
def fnLeadingZeros32Wrong : ChangeSpec := { name := "fnLeadingZeros32", fn := fun _ => fun
  | [d] => { results := [.lit (.bool false)], args := [d] }
  | _ => none }
def FnLeadingZeros32WrongFalsely : Prop := fnLeadingZeros32Row.holds Try.pinned (OpenSpec.ofChange fnLeadingZeros32Wrong)

/-- 'laws.FnReverse32': WHATEVER THE INPUT: true; the input reads as it did. -/
def fnReverse32Spec : ChangeSpec := { name := "fnReverse32", fn := fun _ => fun
  | [d] => { results := [.lit (.bool true)], args := [d] }
  | _ => none }
def fnReverse32Row : OpenClaim := { program := "ytfeahfdepikodaa", sum := "214133a1dc3ae2b632ccef2ec915af12953946fc924c4971d00d87545301301e", func := "lib-bitlathe/laws.FnReverse32", spec := "fnReverse32", apart := false }
def FnReverse32Said : Prop := fnReverse32Row.holds Try.pinned (OpenSpec.ofChange fnReverse32Spec)

/-- ITS FALSE NEIGHBOUR: 'it returns false'. Refute it at one input. -/
def fnReverse32Wrong : ChangeSpec := { name := "fnReverse32", fn := fun _ => fun
  | [d] => { results := [.lit (.bool false)], args := [d] }
  | _ => none }
def FnReverse32WrongFalsely : Prop := fnReverse32Row.holds Try.pinned (OpenSpec.ofChange fnReverse32Wrong)

/-- 'laws.FnLengths32': WHATEVER THE INPUT: true; the input reads as it did. -/
def fnLengths32Spec : ChangeSpec := { name := "fnLengths32", fn := fun _ => fun
  | [d1, d2] => { results := [.lit (.bool true)], args := [d1, d2] }
  | _ => none }
def fnLengths32Row : OpenClaim := { program := "ytfeahfdepikodaa", sum := "214133a1dc3ae2b632ccef2ec915af12953946fc924c4971d00d87545301301e", func := "lib-bitlathe/laws.FnLengths32", spec := "fnLengths32", apart := false }
def FnLengths32Said : Prop := fnLengths32Row.holds Try.pinned (OpenSpec.ofChange fnLengths32Spec)

/-- ITS FALSE NEIGHBOUR: 'it returns false'. Refute it at one input. -/
def fnLengths32Wrong : ChangeSpec := { name := "fnLengths32", fn := fun _ => fun
  | [d1, d2] => { results := [.lit (.bool false)], args := [d1, d2] }
  | _ => none }
def FnLengths32WrongFalsely : Prop := fnLengths32Row.holds Try.pinned (OpenSpec.ofChange fnLengths32Wrong)

/-- 'laws.FnOnes32': WHATEVER THE INPUT: true; the input reads as it did. -/
def fnOnes32Spec : ChangeSpec := { name := "fnOnes32", fn := fun _ => fun
  | [d1, d2, d3] => { results := [.lit (.bool true)], args := [d1, d2, d3] }
  | _ => none }
def fnOnes32Row : OpenClaim := { program := "ytfeahfdepikodaa", sum := "214133a1dc3ae2b632ccef2ec915af12953946fc924c4971d00d87545301301e", func := "lib-bitlathe/laws.FnOnes32", spec := "fnOnes32", unfollowed := true, recurses := true, apart := false }
def FnOnes32Said : Prop := fnOnes32Row.holds Try.pinned (OpenSpec.ofChange fnOnes32Spec)

/-- ITS FALSE NEIGHBOUR: 'it returns false'. Refute it at one input. -/
def fnOnes32Wrong : ChangeSpec := { name := "fnOnes32", fn := fun _ => fun
  | [d1, d2, d3] => { results := [.lit (.bool false)], args := [d1, d2, d3] }
  | _ => none }
def FnOnes32WrongFalsely : Prop := fnOnes32Row.holds Try.pinned (OpenSpec.ofChange fnOnes32Wrong)

/-- 'laws.FnReversed32': WHATEVER THE INPUT: true; the input reads as it did. -/
def fnReversed32Spec : ChangeSpec := { name := "fnReversed32", fn := fun _ => fun
  | [d1, d2] => { results := [.lit (.bool true)], args := [d1, d2] }
  | _ => none }
def fnReversed32Row : OpenClaim := { program := "ytfeahfdepikodaa", sum := "214133a1dc3ae2b632ccef2ec915af12953946fc924c4971d00d87545301301e", func := "lib-bitlathe/laws.FnReversed32", spec := "fnReversed32", unfollowed := true, recurses := true, apart := false }
def FnReversed32Said : Prop := fnReversed32Row.holds Try.pinned (OpenSpec.ofChange fnReversed32Spec)

/-- ITS FALSE NEIGHBOUR: 'it returns false'. Refute it at one input. -/
def fnReversed32Wrong : ChangeSpec := { name := "fnReversed32", fn := fun _ => fun
  | [d1, d2] => { results := [.lit (.bool false)], args := [d1, d2] }
  | _ => none }
def FnReversed32WrongFalsely : Prop := fnReversed32Row.holds Try.pinned (OpenSpec.ofChange fnReversed32Wrong)

/-- 'laws.FnRotationsByShifts32': WHATEVER THE INPUT: true; the input reads as it did. -/
def fnRotationsByShifts32Spec : ChangeSpec := { name := "fnRotationsByShifts32", fn := fun _ => fun
  | [d1, d2] => { results := [.lit (.bool true)], args := [d1, d2] }
  | _ => none }
def fnRotationsByShifts32Row : OpenClaim := { program := "ytfeahfdepikodaa", sum := "214133a1dc3ae2b632ccef2ec915af12953946fc924c4971d00d87545301301e", func := "lib-bitlathe/laws.FnRotationsByShifts32", spec := "fnRotationsByShifts32", apart := false }
def FnRotationsByShifts32Said : Prop := fnRotationsByShifts32Row.holds Try.pinned (OpenSpec.ofChange fnRotationsByShifts32Spec)

/-- ITS FALSE NEIGHBOUR: 'it returns false'. Refute it at one input. -/
def fnRotationsByShifts32Wrong : ChangeSpec := { name := "fnRotationsByShifts32", fn := fun _ => fun
  | [d1, d2] => { results := [.lit (.bool false)], args := [d1, d2] }
  | _ => none }
def FnRotationsByShifts32WrongFalsely : Prop := fnRotationsByShifts32Row.holds Try.pinned (OpenSpec.ofChange fnRotationsByShifts32Wrong)

/-- 'laws.FnBytesReversed32': WHATEVER THE INPUT: true; the input reads as it did. -/
def fnBytesReversed32Spec : ChangeSpec := { name := "fnBytesReversed32", fn := fun _ => fun
  | [d] => { results := [.lit (.bool true)], args := [d] }
  | _ => none }
def fnBytesReversed32Row : OpenClaim := { program := "ytfeahfdepikodaa", sum := "214133a1dc3ae2b632ccef2ec915af12953946fc924c4971d00d87545301301e", func := "lib-bitlathe/laws.FnBytesReversed32", spec := "fnBytesReversed32", apart := false }
def FnBytesReversed32Said : Prop := fnBytesReversed32Row.holds Try.pinned (OpenSpec.ofChange fnBytesReversed32Spec)

/-- ITS FALSE NEIGHBOUR: 'it returns false'. Refute it at one input. -/
def fnBytesReversed32Wrong : ChangeSpec := { name := "fnBytesReversed32", fn := fun _ => fun
  | [d] => { results := [.lit (.bool false)], args := [d] }
  | _ => none }
def FnBytesReversed32WrongFalsely : Prop := fnBytesReversed32Row.holds Try.pinned (OpenSpec.ofChange fnBytesReversed32Wrong)

/-- 'laws.FnRotations32': WHATEVER THE INPUT: true; the input reads as it did. -/
def fnRotations32Spec : ChangeSpec := { name := "fnRotations32", fn := fun _ => fun
  | [d1, d2, d3] => { results := [.lit (.bool true)], args := [d1, d2, d3] }
  | _ => none }
def fnRotations32Row : OpenClaim := { program := "ytfeahfdepikodaa", sum := "214133a1dc3ae2b632ccef2ec915af12953946fc924c4971d00d87545301301e", func := "lib-bitlathe/laws.FnRotations32", spec := "fnRotations32", unfollowed := true, recurses := true, apart := false }
def FnRotations32Said : Prop := fnRotations32Row.holds Try.pinned (OpenSpec.ofChange fnRotations32Spec)

/-- ITS FALSE NEIGHBOUR: 'it returns false'. Refute it at one input. -/
def fnRotations32Wrong : ChangeSpec := { name := "fnRotations32", fn := fun _ => fun
  | [d1, d2, d3] => { results := [.lit (.bool false)], args := [d1, d2, d3] }
  | _ => none }
def FnRotations32WrongFalsely : Prop := fnRotations32Row.holds Try.pinned (OpenSpec.ofChange fnRotations32Wrong)

/- THE SECOND FORM. 'bulk': how many values and letters a reading holds, each counted each time it is reached (what is shared counts as often as it is met; a slice's spare places count too). A statement '..UptoSaid' is the law's where the arguments, and the package variables that the reading takes, are together of bulk at most 1048576: NARROWER than '..Said'. Prove '..Said' where nothing that the law and all that it calls make is longer than what came in: it says more and counts as full. Else prove '..UptoSaid'. A law counts once. -/
mutual
def uptoBulk {H : Type} : DataW H → Nat
  | .lit (.string bytes) => bytes.length + 1
  | .lit _ => 1
  | .nil => 1
  | .ptr d => uptoBulk d + 1
  | .slice elems spare => uptoBulkAll elems + uptoBulkAll spare + 1
  | .agg parts => uptoBulkAll parts + 1
  | .iface _ d => uptoBulk d + 1
  | .map entries => uptoBulkEntries entries + 1
  | .held _ => 1
def uptoBulkAll {H : Type} : List (DataW H) → Nat
  | [] => 0
  | d :: r => uptoBulk d + uptoBulkAll r
def uptoBulkEntries {H : Type} : List (Lit × DataW H) → Nat
  | [] => 0
  | x :: r => uptoBulkEntry x + uptoBulkEntries r
def uptoBulkEntry {H : Type} : Lit × DataW H → Nat
  | (.string bytes, d) => bytes.length + uptoBulk d + 1
  | (_, d) => uptoBulk d + 1
 end
def uptoSmall : (H : Type) → List (DataW H) → Bool := fun _ ds => decide (uptoBulkAll ds ≤ 1048576)
def OpenSpec.upto (s : _root_.Go.ChangeSpec) : _root_.Go.OpenSpec := { _root_.Go.OpenSpec.ofChange s with cond := some uptoSmall }

/-- 'laws.FnOnesCount32', WHERE WHAT IT READS IS OF BULK AT MOST 1048576: true; the input reads as it did. -/
def fnOnesCount32UptoRow : OpenClaim := { program := "ytfeahfdepikodaa", sum := "214133a1dc3ae2b632ccef2ec915af12953946fc924c4971d00d87545301301e", func := "lib-bitlathe/laws.FnOnesCount32", spec := "fnOnesCount32", apart := false, narrowed := true }
def FnOnesCount32UptoSaid : Prop := fnOnesCount32UptoRow.holds Try.pinned (OpenSpec.upto fnOnesCount32Spec)

/-- 'laws.FnReverseBytes32', WHERE WHAT IT READS IS OF BULK AT MOST 1048576: true; the input reads as it did. -/
def fnReverseBytes32UptoRow : OpenClaim := { program := "ytfeahfdepikodaa", sum := "214133a1dc3ae2b632ccef2ec915af12953946fc924c4971d00d87545301301e", func := "lib-bitlathe/laws.FnReverseBytes32", spec := "fnReverseBytes32", apart := false, narrowed := true }
def FnReverseBytes32UptoSaid : Prop := fnReverseBytes32UptoRow.holds Try.pinned (OpenSpec.upto fnReverseBytes32Spec)

/-- 'laws.FnRotateLeft32', WHERE WHAT IT READS IS OF BULK AT MOST 1048576: true; the input reads as it did. -/
def fnRotateLeft32UptoRow : OpenClaim := { program := "ytfeahfdepikodaa", sum := "214133a1dc3ae2b632ccef2ec915af12953946fc924c4971d00d87545301301e", func := "lib-bitlathe/laws.FnRotateLeft32", spec := "fnRotateLeft32", apart := false, narrowed := true }
def FnRotateLeft32UptoSaid : Prop := fnRotateLeft32UptoRow.holds Try.pinned (OpenSpec.upto fnRotateLeft32Spec)

/-- 'laws.FnLen32', WHERE WHAT IT READS IS OF BULK AT MOST 1048576: true; the input reads as it did. -/
def fnLen32UptoRow : OpenClaim := { program := "ytfeahfdepikodaa", sum := "214133a1dc3ae2b632ccef2ec915af12953946fc924c4971d00d87545301301e", func := "lib-bitlathe/laws.FnLen32", spec := "fnLen32", apart := false, narrowed := true }
def FnLen32UptoSaid : Prop := fnLen32UptoRow.holds Try.pinned (OpenSpec.upto fnLen32Spec)

/-- 'laws.FnLeadingZeros32', WHERE WHAT IT READS IS OF BULK AT MOST 1048576: true; the input reads as it did. -/
def fnLeadingZeros32UptoRow : OpenClaim := { program := "ytfeahfdepikodaa", sum := "214133a1dc3ae2b632ccef2ec915af12953946fc924c4971d00d87545301301e", func := "lib-bitlathe/laws.FnLeadingZeros32", spec := "fnLeadingZeros32", apart := false, narrowed := true }
def FnLeadingZeros32UptoSaid : Prop := fnLeadingZeros32UptoRow.holds Try.pinned (OpenSpec.upto fnLeadingZeros32Spec)

/-- 'laws.FnReverse32', WHERE WHAT IT READS IS OF BULK AT MOST 1048576: true; the input reads as it did. -/
def fnReverse32UptoRow : OpenClaim := { program := "ytfeahfdepikodaa", sum := "214133a1dc3ae2b632ccef2ec915af12953946fc924c4971d00d87545301301e", func := "lib-bitlathe/laws.FnReverse32", spec := "fnReverse32", apart := false, narrowed := true }
def FnReverse32UptoSaid : Prop := fnReverse32UptoRow.holds Try.pinned (OpenSpec.upto fnReverse32Spec)

/-- 'laws.FnLengths32', WHERE WHAT IT READS IS OF BULK AT MOST 1048576: true; the input reads as it did. -/
def fnLengths32UptoRow : OpenClaim := { program := "ytfeahfdepikodaa", sum := "214133a1dc3ae2b632ccef2ec915af12953946fc924c4971d00d87545301301e", func := "lib-bitlathe/laws.FnLengths32", spec := "fnLengths32", apart := false, narrowed := true }
def FnLengths32UptoSaid : Prop := fnLengths32UptoRow.holds Try.pinned (OpenSpec.upto fnLengths32Spec)

/-- 'laws.FnOnes32', WHERE WHAT IT READS IS OF BULK AT MOST 1048576: true; the input reads as it did. -/
def fnOnes32UptoRow : OpenClaim := { program := "ytfeahfdepikodaa", sum := "214133a1dc3ae2b632ccef2ec915af12953946fc924c4971d00d87545301301e", func := "lib-bitlathe/laws.FnOnes32", spec := "fnOnes32", unfollowed := true, recurses := true, apart := false, narrowed := true }
def FnOnes32UptoSaid : Prop := fnOnes32UptoRow.holds Try.pinned (OpenSpec.upto fnOnes32Spec)

/-- 'laws.FnReversed32', WHERE WHAT IT READS IS OF BULK AT MOST 1048576: true; the input reads as it did. -/
def fnReversed32UptoRow : OpenClaim := { program := "ytfeahfdepikodaa", sum := "214133a1dc3ae2b632ccef2ec915af12953946fc924c4971d00d87545301301e", func := "lib-bitlathe/laws.FnReversed32", spec := "fnReversed32", unfollowed := true, recurses := true, apart := false, narrowed := true }
def FnReversed32UptoSaid : Prop := fnReversed32UptoRow.holds Try.pinned (OpenSpec.upto fnReversed32Spec)

/-- 'laws.FnRotationsByShifts32', WHERE WHAT IT READS IS OF BULK AT MOST 1048576: true; the input reads as it did. -/
def fnRotationsByShifts32UptoRow : OpenClaim := { program := "ytfeahfdepikodaa", sum := "214133a1dc3ae2b632ccef2ec915af12953946fc924c4971d00d87545301301e", func := "lib-bitlathe/laws.FnRotationsByShifts32", spec := "fnRotationsByShifts32", apart := false, narrowed := true }
def FnRotationsByShifts32UptoSaid : Prop := fnRotationsByShifts32UptoRow.holds Try.pinned (OpenSpec.upto fnRotationsByShifts32Spec)

/-- 'laws.FnBytesReversed32', WHERE WHAT IT READS IS OF BULK AT MOST 1048576: true; the input reads as it did. -/
def fnBytesReversed32UptoRow : OpenClaim := { program := "ytfeahfdepikodaa", sum := "214133a1dc3ae2b632ccef2ec915af12953946fc924c4971d00d87545301301e", func := "lib-bitlathe/laws.FnBytesReversed32", spec := "fnBytesReversed32", apart := false, narrowed := true }
def FnBytesReversed32UptoSaid : Prop := fnBytesReversed32UptoRow.holds Try.pinned (OpenSpec.upto fnBytesReversed32Spec)

/-- 'laws.FnRotations32', WHERE WHAT IT READS IS OF BULK AT MOST 1048576: true; the input reads as it did. -/
def fnRotations32UptoRow : OpenClaim := { program := "ytfeahfdepikodaa", sum := "214133a1dc3ae2b632ccef2ec915af12953946fc924c4971d00d87545301301e", func := "lib-bitlathe/laws.FnRotations32", spec := "fnRotations32", unfollowed := true, recurses := true, apart := false, narrowed := true }
def FnRotations32UptoSaid : Prop := fnRotations32UptoRow.holds Try.pinned (OpenSpec.upto fnRotations32Spec)

end Rows
end Go.Proofs.Ytfeahfdepikodaa

/-
  No cell of these rows narrows 'for every input' (looked for: loops, veiled, ifaces, maps, wideKeys, modest, calm, conditions, laid).
  DERIVED. THE GIVEN ROWS OF THIS SEAT. 14 by the template 'for every input the law returns true; each argument reads behind the call as it read before'; 0 by the template 'total and deterministic' (their statements: YtoiclahghchmaaaTotals.lean).
  GIVEN WITH THE SEED: the statements are not yours to turn. If you find one false, say at which input.
  Laid BY PROGRAM, IN A SANDBOX (cutbox-rows.mjs): the forced cells as the released guide's own fill.sh prints them over the translation 259908cb1388c32a… (all of the seat's roots in one cut). By AI agents, Wed Nov 11 2026. No macro, syntax, notation, axiom, sorry.
-/
import Derived.Test.YtoiclahghchmaaaChecked
import GoSem.Claim
import GoSem.ClaimJoined
import GoSem.ClaimMapViews
import Derived.JoinedTies
import Derived.KernelRfl
namespace Go.Proofs.Ytoiclahghchmaaa
/- THE CELL 'sum', in the pinned program and in every row, IS THE sha256 OF THE DUMP (.gsa) THAT YtoiclahghchmaaaProg.lean LOADS. Nothing in Lean hashes anything: it is a label: what it is worth is what the hold of that sum in a sandbox is worth. -/
noncomputable def Try.pinned : Pinned := { name := "ytoiclahghchmaaa", sum := "259908cb1388c32ae6979339a09b2d9998917c9e06bef2aa97fc61bd29f97d0d", checked := Try.checked }
namespace Rows
def none {H : Type} : Left H := { results := [], args := [] }

/-- 'laws.FnLen8': WHATEVER THE INPUT: true; the input reads as it did. -/
def fnLen8Spec : ChangeSpec := { name := "fnLen8", fn := fun _ => fun
  | [d] => { results := [.lit (.bool true)], args := [d] }
  | _ => none }
def fnLen8Row : OpenClaim := { program := "ytoiclahghchmaaa", sum := "259908cb1388c32ae6979339a09b2d9998917c9e06bef2aa97fc61bd29f97d0d", func := "lib-bitlathe/laws.FnLen8", spec := "fnLen8", apart := false }
def FnLen8Said : Prop := fnLen8Row.holds Try.pinned (OpenSpec.ofChange fnLen8Spec)

/-- ITS FALSE NEIGHBOUR: 'it returns false'. Refute it at one input. -/
def fnLen8Wrong : ChangeSpec := { name := "fnLen8", fn := fun _ => fun
  | [d] => { results := [.lit (.bool false)], args := [d] }
  | _ => none }
def FnLen8WrongFalsely : Prop := fnLen8Row.holds Try.pinned (OpenSpec.ofChange fnLen8Wrong)

/-- 'laws.FnOnesCount8': WHATEVER THE INPUT: true; the input reads as it did. -/
def fnOnesCount8Spec : ChangeSpec := { name := "fnOnesCount8", fn := fun _ => fun
  | [d] => { results := [.lit (.bool true)], args := [d] }
  | _ => none }
def fnOnesCount8Row : OpenClaim := { program := "ytoiclahghchmaaa", sum := "259908cb1388c32ae6979339a09b2d9998917c9e06bef2aa97fc61bd29f97d0d", func := "lib-bitlathe/laws.FnOnesCount8", spec := "fnOnesCount8", apart := false }
def FnOnesCount8Said : Prop := fnOnesCount8Row.holds Try.pinned (OpenSpec.ofChange fnOnesCount8Spec)

/-- ITS FALSE NEIGHBOUR: 'it returns false'. Refute it at one input. -/
def fnOnesCount8Wrong : ChangeSpec := { name := "fnOnesCount8", fn := fun _ => fun
  | [d] => { results := [.lit (.bool false)], args := [d] }
  | _ => none }
def FnOnesCount8WrongFalsely : Prop := fnOnesCount8Row.holds Try.pinned (OpenSpec.ofChange fnOnesCount8Wrong)

/-- 'laws.FnReverse8': WHATEVER THE INPUT: true; the input reads as it did. -/
def fnReverse8Spec : ChangeSpec := { name := "fnReverse8", fn := fun _ => fun
  | [d] => { results := [.lit (.bool true)], args := [d] }
  | _ => none }
def fnReverse8Row : OpenClaim := { program := "ytoiclahghchmaaa", sum := "259908cb1388c32ae6979339a09b2d9998917c9e06bef2aa97fc61bd29f97d0d", func := "lib-bitlathe/laws.FnReverse8", spec := "fnReverse8", apart := false }
def FnReverse8Said : Prop := fnReverse8Row.holds Try.pinned (OpenSpec.ofChange fnReverse8Spec)

/-- ITS FALSE NEIGHBOUR: 'it returns false'. Refute it at one input. -/
def fnReverse8Wrong : ChangeSpec := { name := "fnReverse8", fn := fun _ => fun
  | [d] => { results := [.lit (.bool false)], args := [d] }
  | _ => none }
def FnReverse8WrongFalsely : Prop := fnReverse8Row.holds Try.pinned (OpenSpec.ofChange fnReverse8Wrong)

/-- 'laws.FnTrailingZeros8': WHATEVER THE INPUT: true; the input reads as it did. -/
def fnTrailingZeros8Spec : ChangeSpec := { name := "fnTrailingZeros8", fn := fun _ => fun
  | [d] => { results := [.lit (.bool true)], args := [d] }
  | _ => none }
def fnTrailingZeros8Row : OpenClaim := { program := "ytoiclahghchmaaa", sum := "259908cb1388c32ae6979339a09b2d9998917c9e06bef2aa97fc61bd29f97d0d", func := "lib-bitlathe/laws.FnTrailingZeros8", spec := "fnTrailingZeros8", apart := false }
def FnTrailingZeros8Said : Prop := fnTrailingZeros8Row.holds Try.pinned (OpenSpec.ofChange fnTrailingZeros8Spec)

/-- ITS FALSE NEIGHBOUR: 'it returns false'. Refute it at one input. -/
def fnTrailingZeros8Wrong : ChangeSpec := { name := "fnTrailingZeros8", fn := fun _ => fun
  | [d] => { results := [.lit (.bool false)], args := [d] }
  | _ => none }
def FnTrailingZeros8WrongFalsely : Prop := fnTrailingZeros8Row.holds Try.pinned (OpenSpec.ofChange fnTrailingZeros8Wrong)

/-- 'laws.FnLeadingZeros8': WHATEVER THE INPUT: true; the input reads as it did. -/
def fnLeadingZeros8Spec : ChangeSpec := { name := "fnLeadingZeros8", fn := fun _ => fun
  | [d] => { results := [.lit (.bool true)], args := [d] }
  | _ => none }
def fnLeadingZeros8Row : OpenClaim := { program := "ytoiclahghchmaaa", sum := "259908cb1388c32ae6979339a09b2d9998917c9e06bef2aa97fc61bd29f97d0d", func := "lib-bitlathe/laws.FnLeadingZeros8", spec := "fnLeadingZeros8", apart := false }
def FnLeadingZeros8Said : Prop := fnLeadingZeros8Row.holds Try.pinned (OpenSpec.ofChange fnLeadingZeros8Spec)

/-- ITS FALSE NEIGHBOUR: 'it returns false'. Refute it at one input. -/
def fnLeadingZeros8Wrong : ChangeSpec := { name := "fnLeadingZeros8", fn := fun _ => fun
  | [d] => { results := [.lit (.bool false)], args := [d] }
  | _ => none }
def FnLeadingZeros8WrongFalsely : Prop := fnLeadingZeros8Row.holds Try.pinned (OpenSpec.ofChange fnLeadingZeros8Wrong)

/-- 'laws.FnRotateLeft8': WHATEVER THE INPUT: true; the input reads as it did. -/
def fnRotateLeft8Spec : ChangeSpec := { name := "fnRotateLeft8", fn := fun _ => fun
  | [d1, d2] => { results := [.lit (.bool true)], args := [d1, d2] }
  | _ => none }
def fnRotateLeft8Row : OpenClaim := { program := "ytoiclahghchmaaa", sum := "259908cb1388c32ae6979339a09b2d9998917c9e06bef2aa97fc61bd29f97d0d", func := "lib-bitlathe/laws.FnRotateLeft8", spec := "fnRotateLeft8", apart := false }
def FnRotateLeft8Said : Prop := fnRotateLeft8Row.holds Try.pinned (OpenSpec.ofChange fnRotateLeft8Spec)

/-- ITS FALSE NEIGHBOUR: 'it returns false'. Refute it at one input. -/
def fnRotateLeft8Wrong : ChangeSpec := { name := "fnRotateLeft8", fn := fun _ => fun
  | [d1, d2] => { results := [.lit (.bool false)], args := [d1, d2] }
  | _ => none }
def FnRotateLeft8WrongFalsely : Prop := fnRotateLeft8Row.holds Try.pinned (OpenSpec.ofChange fnRotateLeft8Wrong)

/-- 'laws.FnLengths8': WHATEVER THE INPUT: true; the input reads as it did. -/
def fnLengths8Spec : ChangeSpec := { name := "fnLengths8", fn := fun _ => fun
  | [d1, d2] => { results := [.lit (.bool true)], args := [d1, d2] }
  | _ => none }
def fnLengths8Row : OpenClaim := { program := "ytoiclahghchmaaa", sum := "259908cb1388c32ae6979339a09b2d9998917c9e06bef2aa97fc61bd29f97d0d", func := "lib-bitlathe/laws.FnLengths8", spec := "fnLengths8", apart := false }
def FnLengths8Said : Prop := fnLengths8Row.holds Try.pinned (OpenSpec.ofChange fnLengths8Spec)

/-- ITS FALSE NEIGHBOUR: 'it returns false'. Refute it at one input. -/
def fnLengths8Wrong : ChangeSpec := { name := "fnLengths8", fn := fun _ => fun
  | [d1, d2] => { results := [.lit (.bool false)], args := [d1, d2] }
  | _ => none }
def FnLengths8WrongFalsely : Prop := fnLengths8Row.holds Try.pinned (OpenSpec.ofChange fnLengths8Wrong)

/-- 'laws.FnOnes8': WHATEVER THE INPUT: true; the input reads as it did. -/
def fnOnes8Spec : ChangeSpec := { name := "fnOnes8", fn := fun _ => fun
  | [d1, d2, d3] => { results := [.lit (.bool true)], args := [d1, d2, d3] }
  | _ => none }
def fnOnes8Row : OpenClaim := { program := "ytoiclahghchmaaa", sum := "259908cb1388c32ae6979339a09b2d9998917c9e06bef2aa97fc61bd29f97d0d", func := "lib-bitlathe/laws.FnOnes8", spec := "fnOnes8", unfollowed := true, recurses := true, apart := false }
def FnOnes8Said : Prop := fnOnes8Row.holds Try.pinned (OpenSpec.ofChange fnOnes8Spec)

/-- ITS FALSE NEIGHBOUR: 'it returns false'. Refute it at one input. -/
def fnOnes8Wrong : ChangeSpec := { name := "fnOnes8", fn := fun _ => fun
  | [d1, d2, d3] => { results := [.lit (.bool false)], args := [d1, d2, d3] }
  | _ => none }
def FnOnes8WrongFalsely : Prop := fnOnes8Row.holds Try.pinned (OpenSpec.ofChange fnOnes8Wrong)

/-- 'laws.FnReversed8': WHATEVER THE INPUT: true; the input reads as it did. -/
def fnReversed8Spec : ChangeSpec := { name := "fnReversed8", fn := fun _ => fun
  | [d1, d2] => { results := [.lit (.bool true)], args := [d1, d2] }
  | _ => none }
def fnReversed8Row : OpenClaim := { program := "ytoiclahghchmaaa", sum := "259908cb1388c32ae6979339a09b2d9998917c9e06bef2aa97fc61bd29f97d0d", func := "lib-bitlathe/laws.FnReversed8", spec := "fnReversed8", unfollowed := true, recurses := true, apart := false }
def FnReversed8Said : Prop := fnReversed8Row.holds Try.pinned (OpenSpec.ofChange fnReversed8Spec)

/-- ITS FALSE NEIGHBOUR: 'it returns false'. Refute it at one input. -/
def fnReversed8Wrong : ChangeSpec := { name := "fnReversed8", fn := fun _ => fun
  | [d1, d2] => { results := [.lit (.bool false)], args := [d1, d2] }
  | _ => none }
def FnReversed8WrongFalsely : Prop := fnReversed8Row.holds Try.pinned (OpenSpec.ofChange fnReversed8Wrong)

/-- 'laws.FnRotationsByShifts8': WHATEVER THE INPUT: true; the input reads as it did. -/
def fnRotationsByShifts8Spec : ChangeSpec := { name := "fnRotationsByShifts8", fn := fun _ => fun
  | [d1, d2] => { results := [.lit (.bool true)], args := [d1, d2] }
  | _ => none }
def fnRotationsByShifts8Row : OpenClaim := { program := "ytoiclahghchmaaa", sum := "259908cb1388c32ae6979339a09b2d9998917c9e06bef2aa97fc61bd29f97d0d", func := "lib-bitlathe/laws.FnRotationsByShifts8", spec := "fnRotationsByShifts8", apart := false }
def FnRotationsByShifts8Said : Prop := fnRotationsByShifts8Row.holds Try.pinned (OpenSpec.ofChange fnRotationsByShifts8Spec)

/-- ITS FALSE NEIGHBOUR: 'it returns false'. Refute it at one input. -/
def fnRotationsByShifts8Wrong : ChangeSpec := { name := "fnRotationsByShifts8", fn := fun _ => fun
  | [d1, d2] => { results := [.lit (.bool false)], args := [d1, d2] }
  | _ => none }
def FnRotationsByShifts8WrongFalsely : Prop := fnRotationsByShifts8Row.holds Try.pinned (OpenSpec.ofChange fnRotationsByShifts8Wrong)

/-- 'laws.FnPowers8': WHATEVER THE INPUT: true; the input reads as it did. -/
def fnPowers8Spec : ChangeSpec := { name := "fnPowers8", fn := fun _ => fun
  | [d] => { results := [.lit (.bool true)], args := [d] }
  | _ => none }
def fnPowers8Row : OpenClaim := { program := "ytoiclahghchmaaa", sum := "259908cb1388c32ae6979339a09b2d9998917c9e06bef2aa97fc61bd29f97d0d", func := "lib-bitlathe/laws.FnPowers8", spec := "fnPowers8", apart := false }
def FnPowers8Said : Prop := fnPowers8Row.holds Try.pinned (OpenSpec.ofChange fnPowers8Spec)

/-- ITS FALSE NEIGHBOUR: 'it returns false'. Refute it at one input. -/
def fnPowers8Wrong : ChangeSpec := { name := "fnPowers8", fn := fun _ => fun
  | [d] => { results := [.lit (.bool false)], args := [d] }
  | _ => none }
def FnPowers8WrongFalsely : Prop := fnPowers8Row.holds Try.pinned (OpenSpec.ofChange fnPowers8Wrong)

/-- 'laws.FnLowest8': WHATEVER THE INPUT: true; the input reads as it did. -/
def fnLowest8Spec : ChangeSpec := { name := "fnLowest8", fn := fun _ => fun
  | [d] => { results := [.lit (.bool true)], args := [d] }
  | _ => none }
def fnLowest8Row : OpenClaim := { program := "ytoiclahghchmaaa", sum := "259908cb1388c32ae6979339a09b2d9998917c9e06bef2aa97fc61bd29f97d0d", func := "lib-bitlathe/laws.FnLowest8", spec := "fnLowest8", apart := false }
def FnLowest8Said : Prop := fnLowest8Row.holds Try.pinned (OpenSpec.ofChange fnLowest8Spec)

/-- ITS FALSE NEIGHBOUR: 'it returns false'. Refute it at one input. -/
def fnLowest8Wrong : ChangeSpec := { name := "fnLowest8", fn := fun _ => fun
  | [d] => { results := [.lit (.bool false)], args := [d] }
  | _ => none }
def FnLowest8WrongFalsely : Prop := fnLowest8Row.holds Try.pinned (OpenSpec.ofChange fnLowest8Wrong)

/-- 'laws.FnRotations8': WHATEVER THE INPUT: true; the input reads as it did. -/
def fnRotations8Spec : ChangeSpec := { name := "fnRotations8", fn := fun _ => fun
  | [d1, d2, d3] => { results := [.lit (.bool true)], args := [d1, d2, d3] }
  | _ => none }
def fnRotations8Row : OpenClaim := { program := "ytoiclahghchmaaa", sum := "259908cb1388c32ae6979339a09b2d9998917c9e06bef2aa97fc61bd29f97d0d", func := "lib-bitlathe/laws.FnRotations8", spec := "fnRotations8", unfollowed := true, recurses := true, apart := false }
def FnRotations8Said : Prop := fnRotations8Row.holds Try.pinned (OpenSpec.ofChange fnRotations8Spec)

/-- ITS FALSE NEIGHBOUR: 'it returns false'. Refute it at one input. -/
def fnRotations8Wrong : ChangeSpec := { name := "fnRotations8", fn := fun _ => fun
  | [d1, d2, d3] => { results := [.lit (.bool false)], args := [d1, d2, d3] }
  | _ => none }
def FnRotations8WrongFalsely : Prop := fnRotations8Row.holds Try.pinned (OpenSpec.ofChange fnRotations8Wrong)

/-- 'laws.FnPlaces8': WHATEVER THE INPUT: true; the input reads as it did. -/
def fnPlaces8Spec : ChangeSpec := { name := "fnPlaces8", fn := fun _ => fun
  | [d] => { results := [.lit (.bool true)], args := [d] }
  | _ => none }
def fnPlaces8Row : OpenClaim := { program := "ytoiclahghchmaaa", sum := "259908cb1388c32ae6979339a09b2d9998917c9e06bef2aa97fc61bd29f97d0d", func := "lib-bitlathe/laws.FnPlaces8", spec := "fnPlaces8", apart := false }
def FnPlaces8Said : Prop := fnPlaces8Row.holds Try.pinned (OpenSpec.ofChange fnPlaces8Spec)

/-- ITS FALSE NEIGHBOUR: 'it returns false'. Refute it at one input. -/
def fnPlaces8Wrong : ChangeSpec := { name := "fnPlaces8", fn := fun _ => fun
  | [d] => { results := [.lit (.bool false)], args := [d] }
  | _ => none }
def FnPlaces8WrongFalsely : Prop := fnPlaces8Row.holds Try.pinned (OpenSpec.ofChange fnPlaces8Wrong)

/- THE SECOND FORM. 'bulk': how many values and letters a reading holds, each counted each time it is reached (what is shared counts as often as it is met; a slice's spare places count too). A statement '..UptoSaid' is the law's where the arguments, and the package variables that the reading takes, are together of bulk at most 1048576: NARROWER than '..Said'. Prove '..Said' where nothing that the law and all that it calls make is longer than what came in: it says more and counts as full. Else prove '..UptoSaid'. A law counts once. -/
mutual
def uptoBulk {H : Type} : DataW H → Nat
  | .lit (.string bytes) => bytes.length + 1
  | .lit _ => 1
  | .nil => 1
  | .ptr d => uptoBulk d + 1
  | .slice elems spare => uptoBulkAll elems + uptoBulkAll spare + 1
  | .agg parts => uptoBulkAll parts + 1
  | .iface _ d => uptoBulk d + 1
  | .map entries => uptoBulkEntries entries + 1
  | .held _ => 1
def uptoBulkAll {H : Type} : List (DataW H) → Nat
  | [] => 0
  | d :: r => uptoBulk d + uptoBulkAll r
def uptoBulkEntries {H : Type} : List (Lit × DataW H) → Nat
  | [] => 0
  | x :: r => uptoBulkEntry x + uptoBulkEntries r
def uptoBulkEntry {H : Type} : Lit × DataW H → Nat
  | (.string bytes, d) => bytes.length + uptoBulk d + 1
  | (_, d) => uptoBulk d + 1
 end
def uptoSmall : (H : Type) → List (DataW H) → Bool := fun _ ds => decide (uptoBulkAll ds ≤ 1048576)
def OpenSpec.upto (s : _root_.Go.ChangeSpec) : _root_.Go.OpenSpec := { _root_.Go.OpenSpec.ofChange s with cond := some uptoSmall }

/-- 'laws.FnLen8', WHERE WHAT IT READS IS OF BULK AT MOST 1048576: true; the input reads as it did. -/
def fnLen8UptoRow : OpenClaim := { program := "ytoiclahghchmaaa", sum := "259908cb1388c32ae6979339a09b2d9998917c9e06bef2aa97fc61bd29f97d0d", func := "lib-bitlathe/laws.FnLen8", spec := "fnLen8", apart := false, narrowed := true }
def FnLen8UptoSaid : Prop := fnLen8UptoRow.holds Try.pinned (OpenSpec.upto fnLen8Spec)

/-- 'laws.FnOnesCount8', WHERE WHAT IT READS IS OF BULK AT MOST 1048576: true; the input reads as it did. -/
def fnOnesCount8UptoRow : OpenClaim := { program := "ytoiclahghchmaaa", sum := "259908cb1388c32ae6979339a09b2d9998917c9e06bef2aa97fc61bd29f97d0d", func := "lib-bitlathe/laws.FnOnesCount8", spec := "fnOnesCount8", apart := false, narrowed := true }
def FnOnesCount8UptoSaid : Prop := fnOnesCount8UptoRow.holds Try.pinned (OpenSpec.upto fnOnesCount8Spec)

/-- 'laws.FnReverse8', WHERE WHAT IT READS IS OF BULK AT MOST 1048576: true; the input reads as it did. -/
def fnReverse8UptoRow : OpenClaim := { program := "ytoiclahghchmaaa", sum := "259908cb1388c32ae6979339a09b2d9998917c9e06bef2aa97fc61bd29f97d0d", func := "lib-bitlathe/laws.FnReverse8", spec := "fnReverse8", apart := false, narrowed := true }
def FnReverse8UptoSaid : Prop := fnReverse8UptoRow.holds Try.pinned (OpenSpec.upto fnReverse8Spec)

/-- 'laws.FnTrailingZeros8', WHERE WHAT IT READS IS OF BULK AT MOST 1048576: true; the input reads as it did. -/
def fnTrailingZeros8UptoRow : OpenClaim := { program := "ytoiclahghchmaaa", sum := "259908cb1388c32ae6979339a09b2d9998917c9e06bef2aa97fc61bd29f97d0d", func := "lib-bitlathe/laws.FnTrailingZeros8", spec := "fnTrailingZeros8", apart := false, narrowed := true }
def FnTrailingZeros8UptoSaid : Prop := fnTrailingZeros8UptoRow.holds Try.pinned (OpenSpec.upto fnTrailingZeros8Spec)

/-- 'laws.FnLeadingZeros8', WHERE WHAT IT READS IS OF BULK AT MOST 1048576: true; the input reads as it did. -/
def fnLeadingZeros8UptoRow : OpenClaim := { program := "ytoiclahghchmaaa", sum := "259908cb1388c32ae6979339a09b2d9998917c9e06bef2aa97fc61bd29f97d0d", func := "lib-bitlathe/laws.FnLeadingZeros8", spec := "fnLeadingZeros8", apart := false, narrowed := true }
def FnLeadingZeros8UptoSaid : Prop := fnLeadingZeros8UptoRow.holds Try.pinned (OpenSpec.upto fnLeadingZeros8Spec)

/-- 'laws.FnRotateLeft8', WHERE WHAT IT READS IS OF BULK AT MOST 1048576: true; the input reads as it did. -/
def fnRotateLeft8UptoRow : OpenClaim := { program := "ytoiclahghchmaaa", sum := "259908cb1388c32ae6979339a09b2d9998917c9e06bef2aa97fc61bd29f97d0d", func := "lib-bitlathe/laws.FnRotateLeft8", spec := "fnRotateLeft8", apart := false, narrowed := true }
def FnRotateLeft8UptoSaid : Prop := fnRotateLeft8UptoRow.holds Try.pinned (OpenSpec.upto fnRotateLeft8Spec)

/-- 'laws.FnLengths8', WHERE WHAT IT READS IS OF BULK AT MOST 1048576: true; the input reads as it did. -/
def fnLengths8UptoRow : OpenClaim := { program := "ytoiclahghchmaaa", sum := "259908cb1388c32ae6979339a09b2d9998917c9e06bef2aa97fc61bd29f97d0d", func := "lib-bitlathe/laws.FnLengths8", spec := "fnLengths8", apart := false, narrowed := true }
def FnLengths8UptoSaid : Prop := fnLengths8UptoRow.holds Try.pinned (OpenSpec.upto fnLengths8Spec)

/-- 'laws.FnOnes8', WHERE WHAT IT READS IS OF BULK AT MOST 1048576: true; the input reads as it did. -/
def fnOnes8UptoRow : OpenClaim := { program := "ytoiclahghchmaaa", sum := "259908cb1388c32ae6979339a09b2d9998917c9e06bef2aa97fc61bd29f97d0d", func := "lib-bitlathe/laws.FnOnes8", spec := "fnOnes8", unfollowed := true, recurses := true, apart := false, narrowed := true }
def FnOnes8UptoSaid : Prop := fnOnes8UptoRow.holds Try.pinned (OpenSpec.upto fnOnes8Spec)

/-- 'laws.FnReversed8', WHERE WHAT IT READS IS OF BULK AT MOST 1048576: true; the input reads as it did. -/
def fnReversed8UptoRow : OpenClaim := { program := "ytoiclahghchmaaa", sum := "259908cb1388c32ae6979339a09b2d9998917c9e06bef2aa97fc61bd29f97d0d", func := "lib-bitlathe/laws.FnReversed8", spec := "fnReversed8", unfollowed := true, recurses := true, apart := false, narrowed := true }
def FnReversed8UptoSaid : Prop := fnReversed8UptoRow.holds Try.pinned (OpenSpec.upto fnReversed8Spec)

/-- 'laws.FnRotationsByShifts8', WHERE WHAT IT READS IS OF BULK AT MOST 1048576: true; the input reads as it did. -/
def fnRotationsByShifts8UptoRow : OpenClaim := { program := "ytoiclahghchmaaa", sum := "259908cb1388c32ae6979339a09b2d9998917c9e06bef2aa97fc61bd29f97d0d", func := "lib-bitlathe/laws.FnRotationsByShifts8", spec := "fnRotationsByShifts8", apart := false, narrowed := true }
def FnRotationsByShifts8UptoSaid : Prop := fnRotationsByShifts8UptoRow.holds Try.pinned (OpenSpec.upto fnRotationsByShifts8Spec)

/-- 'laws.FnPowers8', WHERE WHAT IT READS IS OF BULK AT MOST 1048576: true; the input reads as it did. -/
def fnPowers8UptoRow : OpenClaim := { program := "ytoiclahghchmaaa", sum := "259908cb1388c32ae6979339a09b2d9998917c9e06bef2aa97fc61bd29f97d0d", func := "lib-bitlathe/laws.FnPowers8", spec := "fnPowers8", apart := false, narrowed := true }
def FnPowers8UptoSaid : Prop := fnPowers8UptoRow.holds Try.pinned (OpenSpec.upto fnPowers8Spec)

/-- 'laws.FnLowest8', WHERE WHAT IT READS IS OF BULK AT MOST 1048576: true; the input reads as it did. -/
def fnLowest8UptoRow : OpenClaim := { program := "ytoiclahghchmaaa", sum := "259908cb1388c32ae6979339a09b2d9998917c9e06bef2aa97fc61bd29f97d0d", func := "lib-bitlathe/laws.FnLowest8", spec := "fnLowest8", apart := false, narrowed := true }
def FnLowest8UptoSaid : Prop := fnLowest8UptoRow.holds Try.pinned (OpenSpec.upto fnLowest8Spec)

/-- 'laws.FnRotations8', WHERE WHAT IT READS IS OF BULK AT MOST 1048576: true; the input reads as it did. -/
def fnRotations8UptoRow : OpenClaim := { program := "ytoiclahghchmaaa", sum := "259908cb1388c32ae6979339a09b2d9998917c9e06bef2aa97fc61bd29f97d0d", func := "lib-bitlathe/laws.FnRotations8", spec := "fnRotations8", unfollowed := true, recurses := true, apart := false, narrowed := true }
def FnRotations8UptoSaid : Prop := fnRotations8UptoRow.holds Try.pinned (OpenSpec.upto fnRotations8Spec)

/-- 'laws.FnPlaces8', WHERE WHAT IT READS IS OF BULK AT MOST 1048576: true; the input reads as it did. -/
def fnPlaces8UptoRow : OpenClaim := { program := "ytoiclahghchmaaa", sum := "259908cb1388c32ae6979339a09b2d9998917c9e06bef2aa97fc61bd29f97d0d", func := "lib-bitlathe/laws.FnPlaces8", spec := "fnPlaces8", apart := false, narrowed := true }
def FnPlaces8UptoSaid : Prop := fnPlaces8UptoRow.holds Try.pinned (OpenSpec.upto fnPlaces8Spec)

end Rows
end Go.Proofs.Ytoiclahghchmaaa

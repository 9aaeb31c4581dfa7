/-
  No cell of these rows narrows 'for every input' (looked for: loops, veiled, ifaces, maps, wideKeys, modest, calm, conditions, laid).
  DERIVED. THE GIVEN ROWS OF THIS SEAT. 5 by the template 'for every input the law returns true; each argument reads behind the call as it read before'; 0 by the template 'total and deterministic' (their statements: YthknhfekfieedaaTotals.lean).
  GIVEN WITH THE SEED: the statements are not yours to turn. If you find one false, say at which input.
  Laid BY PROGRAM, IN A SANDBOX (cutbox-rows.mjs): the forced cells as the released guide's own fill.sh prints them over the translation fa56c51df2712690… (all of the seat's roots in one cut). By AI agents, Wed Nov 11 2026. No macro, syntax, notation, axiom, sorry.
-/
import Derived.Test.YthknhfekfieedaaChecked
import GoSem.Claim
import GoSem.ClaimJoined
import GoSem.ClaimMapViews
import Derived.JoinedTies
import Derived.KernelRfl
namespace Go.Proofs.Ythknhfekfieedaa
/- THE CELL 'sum', in the pinned program and in every row, IS THE sha256 OF THE DUMP (.gsa) THAT YthknhfekfieedaaProg.lean LOADS. Nothing in Lean hashes anything: it is a label: what it is worth is what the hold of that sum in a sandbox is worth. -/
noncomputable def Try.pinned : Pinned := { name := "ythknhfekfieedaa", sum := "fa56c51df2712690541ab67a8325e3000eb12266d1d78891301493bfdf1030d3", checked := Try.checked }
namespace Rows
def none {H : Type} : Left H := { results := [], args := [] }

/-- 'laws.FnEndings': WHATEVER THE INPUT: true; the input reads as it did. -/
def fnEndingsSpec : ChangeSpec := { name := "fnEndings", fn := fun _ => fun
  | [d] => { results := [.lit (.bool true)], args := [d] }
  | _ => none }
def fnEndingsRow : OpenClaim := { program := "ythknhfekfieedaa", sum := "fa56c51df2712690541ab67a8325e3000eb12266d1d78891301493bfdf1030d3", func := "lib-bitlathe/laws.FnEndings", spec := "fnEndings", unfollowed := true, recurses := true, apart := false }
def FnEndingsSaid : Prop := fnEndingsRow.holds Try.pinned (OpenSpec.ofChange fnEndingsSpec)

/-- ITS FALSE NEIGHBOUR: 'it returns false'. Refute it at one input. -/
def fnEndingsWrong : ChangeSpec := { name := "fnEndings", fn := fun _ => fun
  | [d] => { results := [.lit (.bool false)], args := [d] }
  | _ => none }
def FnEndingsWrongFalsely : Prop := fnEndingsRow.holds Try.pinned (OpenSpec.ofChange fnEndingsWrong)

/-- 'laws.FnGray': WHATEVER THE INPUT: true; the input reads as it did. -/
def fnGraySpec : ChangeSpec := { name := "fnGray", fn := fun _ => fun
  | [d] => { results := [.lit (.bool true)], args := [d] }
  | _ => none }
def fnGrayRow : OpenClaim := { program := "ythknhfekfieedaa", sum := "fa56c51df2712690541ab67a8325e3000eb12266d1d78891301493bfdf1030d3", func := "lib-bitlathe/laws.FnGray", spec := "fnGray", apart := false }
def FnGraySaid : Prop := fnGrayRow.holds Try.pinned (OpenSpec.ofChange fnGraySpec)

/-- ITS FALSE NEIGHBOUR: 'it returns false'. Refute it at one input. -/
def fnGrayWrong : ChangeSpec := { name := "fnGray", fn := fun _ => fun
  | [d] => { results := [.lit (.bool false)], args := [d] }
  | _ => none }
def FnGrayWrongFalsely : Prop := fnGrayRow.holds Try.pinned (OpenSpec.ofChange fnGrayWrong)

/-- 'laws.FnParity': WHATEVER THE INPUT: true; the input reads as it did. -/
def fnParitySpec : ChangeSpec := { name := "fnParity", fn := fun _ => fun
  | [d1, d2] => { results := [.lit (.bool true)], args := [d1, d2] }
  | _ => none }
def fnParityRow : OpenClaim := { program := "ythknhfekfieedaa", sum := "fa56c51df2712690541ab67a8325e3000eb12266d1d78891301493bfdf1030d3", func := "lib-bitlathe/laws.FnParity", spec := "fnParity", apart := false }
def FnParitySaid : Prop := fnParityRow.holds Try.pinned (OpenSpec.ofChange fnParitySpec)

/-- ITS FALSE NEIGHBOUR: 'it returns false'. Refute it at one input. -/
def fnParityWrong : ChangeSpec := { name := "fnParity", fn := fun _ => fun
  | [d1, d2] => { results := [.lit (.bool false)], args := [d1, d2] }
  | _ => none }
def FnParityWrongFalsely : Prop := fnParityRow.holds Try.pinned (OpenSpec.ofChange fnParityWrong)

/-- 'laws.FnParts': WHATEVER THE INPUT: true; the input reads as it did. -/
def fnPartsSpec : ChangeSpec := { name := "fnParts", fn := fun _ => fun
  | [d] => { results := [.lit (.bool true)], args := [d] }
  | _ => none }
def fnPartsRow : OpenClaim := { program := "ythknhfekfieedaa", sum := "fa56c51df2712690541ab67a8325e3000eb12266d1d78891301493bfdf1030d3", func := "lib-bitlathe/laws.FnParts", spec := "fnParts", apart := false }
def FnPartsSaid : Prop := fnPartsRow.holds Try.pinned (OpenSpec.ofChange fnPartsSpec)

/-- ITS FALSE NEIGHBOUR: 'it returns false'. Refute it at one input. -/
def fnPartsWrong : ChangeSpec := { name := "fnParts", fn := fun _ => fun
  | [d] => { results := [.lit (.bool false)], args := [d] }
  | _ => none }
def FnPartsWrongFalsely : Prop := fnPartsRow.holds Try.pinned (OpenSpec.ofChange fnPartsWrong)

/-- 'laws.FnTurnedIndex': WHATEVER THE INPUT: true; the input reads as it did. -/
def fnTurnedIndexSpec : ChangeSpec := { name := "fnTurnedIndex", fn := fun _ => fun
  | [d1, d2] => { results := [.lit (.bool true)], args := [d1, d2] }
  | _ => none }
def fnTurnedIndexRow : OpenClaim := { program := "ythknhfekfieedaa", sum := "fa56c51df2712690541ab67a8325e3000eb12266d1d78891301493bfdf1030d3", func := "lib-bitlathe/laws.FnTurnedIndex", spec := "fnTurnedIndex", apart := false }
def FnTurnedIndexSaid : Prop := fnTurnedIndexRow.holds Try.pinned (OpenSpec.ofChange fnTurnedIndexSpec)

/-- ITS FALSE NEIGHBOUR: 'it returns false'. Refute it at one input. -/
def fnTurnedIndexWrong : ChangeSpec := { name := "fnTurnedIndex", fn := fun _ => fun
  | [d1, d2] => { results := [.lit (.bool false)], args := [d1, d2] }
  | _ => none }
def FnTurnedIndexWrongFalsely : Prop := fnTurnedIndexRow.holds Try.pinned (OpenSpec.ofChange fnTurnedIndexWrong)

/- THE SECOND FORM. 'bulk': how many values and letters a reading holds, each counted each time it is reached (what is shared counts as often as it is met; a slice's spare places count too). A statement '..UptoSaid' is the law's where the arguments, and the package variables that the reading takes, are together of bulk at most 1048576: NARROWER than '..Said'. Prove '..Said' where nothing that the law and all that it calls make is longer than what came in: it says more and counts as full. Else prove '..UptoSaid'. A law counts once. -/
mutual
def uptoBulk {H : Type} : DataW H → Nat
  | .lit (.string bytes) => bytes.length + 1
  | .lit _ => 1
  | .nil => 1
  | .ptr d => uptoBulk d + 1
  | .slice elems spare => uptoBulkAll elems + uptoBulkAll spare + 1
  | .agg parts => uptoBulkAll parts + 1
  | .iface _ d => uptoBulk d + 1
  | .map entries => uptoBulkEntries entries + 1
  | .held _ => 1
def uptoBulkAll {H : Type} : List (DataW H) → Nat
  | [] => 0
  | d :: r => uptoBulk d + uptoBulkAll r
def uptoBulkEntries {H : Type} : List (Lit × DataW H) → Nat
  | [] => 0
  | x :: r => uptoBulkEntry x + uptoBulkEntries r
def uptoBulkEntry {H : Type} : Lit × DataW H → Nat
  | (.string bytes, d) => bytes.length + uptoBulk d + 1
  | (_, d) => uptoBulk d + 1
 end
def uptoSmall : (H : Type) → List (DataW H) → Bool := fun _ ds => decide (uptoBulkAll ds ≤ 1048576)
def OpenSpec.upto (s : _root_.Go.ChangeSpec) : _root_.Go.OpenSpec := { _root_.Go.OpenSpec.ofChange s with cond := some uptoSmall }

/-- 'laws.FnEndings', WHERE WHAT IT READS IS OF BULK AT MOST 1048576: true; the input reads as it did. -/
def fnEndingsUptoRow : OpenClaim := { program := "ythknhfekfieedaa", sum := "fa56c51df2712690541ab67a8325e3000eb12266d1d78891301493bfdf1030d3", func := "lib-bitlathe/laws.FnEndings", spec := "fnEndings", unfollowed := true, recurses := true, apart := false, narrowed := true }
def FnEndingsUptoSaid : Prop := fnEndingsUptoRow.holds Try.pinned (OpenSpec.upto fnEndingsSpec)

/-- 'laws.FnGray', WHERE WHAT IT READS IS OF BULK AT MOST 1048576: true; the input reads as it did. -/
def fnGrayUptoRow : OpenClaim := { program := "ythknhfekfieedaa", sum := "fa56c51df2712690541ab67a8325e3000eb12266d1d78891301493bfdf1030d3", func := "lib-bitlathe/laws.FnGray", spec := "fnGray", apart := false, narrowed := true }
def FnGrayUptoSaid : Prop := fnGrayUptoRow.holds Try.pinned (OpenSpec.upto fnGraySpec)

/-- 'laws.FnParity', WHERE WHAT IT READS IS OF BULK AT MOST 1048576: true; the input reads as it did. -/
def fnParityUptoRow : OpenClaim := { program := "ythknhfekfieedaa", sum := "fa56c51df2712690541ab67a8325e3000eb12266d1d78891301493bfdf1030d3", func := "lib-bitlathe/laws.FnParity", spec := "fnParity", apart := false, narrowed := true }
def FnParityUptoSaid : Prop := fnParityUptoRow.holds Try.pinned (OpenSpec.upto fnParitySpec)

/-- 'laws.FnParts', WHERE WHAT IT READS IS OF BULK AT MOST 1048576: true; the input reads as it did. -/
def fnPartsUptoRow : OpenClaim := { program := "ythknhfekfieedaa", sum := "fa56c51df2712690541ab67a8325e3000eb12266d1d78891301493bfdf1030d3", func := "lib-bitlathe/laws.FnParts", spec := "fnParts", apart := false, narrowed := true }
def FnPartsUptoSaid : Prop := fnPartsUptoRow.holds Try.pinned (OpenSpec.upto fnPartsSpec)

/-- 'laws.FnTurnedIndex', WHERE WHAT IT READS IS OF BULK AT MOST 1048576: true; the input reads as it did. -/
def fnTurnedIndexUptoRow : OpenClaim := { program := "ythknhfekfieedaa", sum := "fa56c51df2712690541ab67a8325e3000eb12266d1d78891301493bfdf1030d3", func := "lib-bitlathe/laws.FnTurnedIndex", spec := "fnTurnedIndex", apart := false, narrowed := true }
def FnTurnedIndexUptoSaid : Prop := fnTurnedIndexUptoRow.holds Try.pinned (OpenSpec.upto fnTurnedIndexSpec)

end Rows
end Go.Proofs.Ythknhfekfieedaa

/-
  NARROWER THAN 'FOR EVERY INPUT', by the rows' own cells (each row's printed sentence says how): FnTrailingZeros32: laid · FnPowers32: laid · FnPlaces32: laid · FnLowest32: laid.
  DERIVED. THE GIVEN ROWS OF THIS SEAT. 4 by the template 'for every input the law returns true; each argument reads behind the call as it read before'; 0 by the template 'total and deterministic' (their statements: YtfeahfdepikodaaDoorTotals.lean).
  GIVEN WITH THE SEED: the statements are not yours to turn. If you find one false, say at which input.
  Laid BY PROGRAM, IN A SANDBOX (cutbox-rows.mjs): the forced cells as the released guide's own fill.sh prints them over the translation dcdde8850b7ae61d… (all of the seat's roots in one cut). By AI agents, Wed Nov 11 2026. No macro, syntax, notation, axiom, sorry.
-/
import Derived.Test.YtfeahfdepikodaaDoorChecked
import GoSem.Claim
import GoSem.ClaimJoined
import GoSem.ClaimMapViews
import Derived.JoinedTies
import Derived.KernelRfl
namespace Go.Proofs.YtfeahfdepikodaaDoor
/- THE CELL 'sum', in the pinned program and in every row, IS THE sha256 OF THE DUMP (.gsa) THAT YtfeahfdepikodaaDoorProg.lean LOADS. Nothing in Lean hashes anything: it is a label: what it is worth is what the hold of that sum in a sandbox is worth. -/
noncomputable def Tryd.pinned : Pinned := { name := "ytfeahfdepikodaadoor", sum := "dcdde8850b7ae61d43d44a11acdc78814070407894008896a13159c337b95dd5", checked := Tryd.checked }
namespace Rows
def none {H : Type} : Left H := { results := [], args := [] }

/- WHAT THE LISTED PACKAGE-LEVEL VARIABLES READ AS WHEN THE CALL BEGINS. Each datum BY PROGRAM (the guide's laid-datum.mjs) off the statement by which the dump's own 'gosem.cut.vars' lays the variable. In a bare row this is a premise. The card (YtfeahfdepikodaaDoorCards.lean) ties it to the program's text. -/
def laid_math_bits_deBruijn32tab {H : Type} : DataW H := .agg [.lit (.int .u8 0), .lit (.int .u8 1), .lit (.int .u8 28), .lit (.int .u8 2), .lit (.int .u8 29), .lit (.int .u8 14), .lit (.int .u8 24), .lit (.int .u8 3), .lit (.int .u8 30), .lit (.int .u8 22), .lit (.int .u8 20), .lit (.int .u8 15), .lit (.int .u8 25), .lit (.int .u8 17), .lit (.int .u8 4), .lit (.int .u8 8), .lit (.int .u8 31), .lit (.int .u8 27), .lit (.int .u8 13), .lit (.int .u8 23), .lit (.int .u8 21), .lit (.int .u8 19), .lit (.int .u8 16), .lit (.int .u8 7), .lit (.int .u8 26), .lit (.int .u8 12), .lit (.int .u8 18), .lit (.int .u8 6), .lit (.int .u8 11), .lit (.int .u8 5), .lit (.int .u8 10), .lit (.int .u8 9)]

/-- 'laws.FnTrailingZeros32': WHATEVER THE INPUT: true; the input reads as it did. -/
def fnTrailingZeros32Spec : ChangeSpec := { name := "fnTrailingZeros32", fn := fun _ => fun
  | [d] => { results := [.lit (.bool true)], args := [d] }
  | _ => none }
def fnTrailingZeros32Row : OpenClaim := { program := "ytfeahfdepikodaadoor", sum := "dcdde8850b7ae61d43d44a11acdc78814070407894008896a13159c337b95dd5", func := "lib-bitlathe/laws.FnTrailingZeros32", spec := "fnTrailingZeros32", named := ["math/bits.deBruijn32tab"], apart := false, laid := [("math/bits.deBruijn32tab", laid_math_bits_deBruijn32tab)] }
def FnTrailingZeros32Said : Prop := fnTrailingZeros32Row.holds Tryd.pinned (OpenSpec.ofChange fnTrailingZeros32Spec)

/-- ITS FALSE NEIGHBOUR: 'it returns false'. Refute it at one input. -/
def fnTrailingZeros32Wrong : ChangeSpec := { name := "fnTrailingZeros32", fn := fun _ => fun
  | [d] => { results := [.lit (.bool false)], args := [d] }
  | _ => none }
def FnTrailingZeros32WrongFalsely : Prop := fnTrailingZeros32Row.holds Tryd.pinned (OpenSpec.ofChange fnTrailingZeros32Wrong)

/-- 'laws.FnPowers32': WHATEVER THE INPUT: true; the input reads as it did. -/
def fnPowers32Spec : ChangeSpec := { name := "fnPowers32", fn := fun _ => fun
  | [d] => { results := [.lit (.bool true)], args := [d] }
  | _ => none }
def fnPowers32Row : OpenClaim := { program := "ytfeahfdepikodaadoor", sum := "dcdde8850b7ae61d43d44a11acdc78814070407894008896a13159c337b95dd5", func := "lib-bitlathe/laws.FnPowers32", spec := "fnPowers32", named := ["math/bits.deBruijn32tab"], apart := false, laid := [("math/bits.deBruijn32tab", laid_math_bits_deBruijn32tab)] }
def FnPowers32Said : Prop := fnPowers32Row.holds Tryd.pinned (OpenSpec.ofChange fnPowers32Spec)

/-- ITS FALSE NEIGHBOUR: 'it returns false'. Refute it at one input. -/
def fnPowers32Wrong : ChangeSpec := { name := "fnPowers32", fn := fun _ => fun
  | [d] => { results := [.lit (.bool false)], args := [d] }
  | _ => none }
def FnPowers32WrongFalsely : Prop := fnPowers32Row.holds Tryd.pinned (OpenSpec.ofChange fnPowers32Wrong)

/-- 'laws.FnPlaces32': WHATEVER THE INPUT: true; the input reads as it did. -/
def fnPlaces32Spec : ChangeSpec := { name := "fnPlaces32", fn := fun _ => fun
  | [d] => { results := [.lit (.bool true)], args := [d] }
  | _ => none }
def fnPlaces32Row : OpenClaim := { program := "ytfeahfdepikodaadoor", sum := "dcdde8850b7ae61d43d44a11acdc78814070407894008896a13159c337b95dd5", func := "lib-bitlathe/laws.FnPlaces32", spec := "fnPlaces32", named := ["math/bits.deBruijn32tab"], apart := false, laid := [("math/bits.deBruijn32tab", laid_math_bits_deBruijn32tab)] }
def FnPlaces32Said : Prop := fnPlaces32Row.holds Tryd.pinned (OpenSpec.ofChange fnPlaces32Spec)

/-- ITS FALSE NEIGHBOUR: 'it returns false'. Refute it at one input. -/
def fnPlaces32Wrong : ChangeSpec := { name := "fnPlaces32", fn := fun _ => fun
  | [d] => { results := [.lit (.bool false)], args := [d] }
  | _ => none }
def FnPlaces32WrongFalsely : Prop := fnPlaces32Row.holds Tryd.pinned (OpenSpec.ofChange fnPlaces32Wrong)

/-- 'laws.FnLowest32': WHATEVER THE INPUT: true; the input reads as it did. -/
def fnLowest32Spec : ChangeSpec := { name := "fnLowest32", fn := fun _ => fun
  | [d] => { results := [.lit (.bool true)], args := [d] }
  | _ => none }
def fnLowest32Row : OpenClaim := { program := "ytfeahfdepikodaadoor", sum := "dcdde8850b7ae61d43d44a11acdc78814070407894008896a13159c337b95dd5", func := "lib-bitlathe/laws.FnLowest32", spec := "fnLowest32", named := ["math/bits.deBruijn32tab"], apart := false, laid := [("math/bits.deBruijn32tab", laid_math_bits_deBruijn32tab)] }
def FnLowest32Said : Prop := fnLowest32Row.holds Tryd.pinned (OpenSpec.ofChange fnLowest32Spec)

/-- ITS FALSE NEIGHBOUR: 'it returns false'. Refute it at one input. -/
def fnLowest32Wrong : ChangeSpec := { name := "fnLowest32", fn := fun _ => fun
  | [d] => { results := [.lit (.bool false)], args := [d] }
  | _ => none }
def FnLowest32WrongFalsely : Prop := fnLowest32Row.holds Tryd.pinned (OpenSpec.ofChange fnLowest32Wrong)

/- THE SECOND FORM. 'bulk': how many values and letters a reading holds, each counted each time it is reached (what is shared counts as often as it is met; a slice's spare places count too). A statement '..UptoSaid' is the law's where the arguments, and the package variables that the reading takes, are together of bulk at most 1048576: NARROWER than '..Said'. Prove '..Said' where nothing that the law and all that it calls make is longer than what came in: it says more and counts as full. Else prove '..UptoSaid'. A law counts once. -/
mutual
def uptoBulk {H : Type} : DataW H → Nat
  | .lit (.string bytes) => bytes.length + 1
  | .lit _ => 1
  | .nil => 1
  | .ptr d => uptoBulk d + 1
  | .slice elems spare => uptoBulkAll elems + uptoBulkAll spare + 1
  | .agg parts => uptoBulkAll parts + 1
  | .iface _ d => uptoBulk d + 1
  | .map entries => uptoBulkEntries entries + 1
  | .held _ => 1
def uptoBulkAll {H : Type} : List (DataW H) → Nat
  | [] => 0
  | d :: r => uptoBulk d + uptoBulkAll r
def uptoBulkEntries {H : Type} : List (Lit × DataW H) → Nat
  | [] => 0
  | x :: r => uptoBulkEntry x + uptoBulkEntries r
def uptoBulkEntry {H : Type} : Lit × DataW H → Nat
  | (.string bytes, d) => bytes.length + uptoBulk d + 1
  | (_, d) => uptoBulk d + 1
 end
def uptoSmall : (H : Type) → List (DataW H) → Bool := fun _ ds => decide (uptoBulkAll ds ≤ 1048576)
def OpenSpec.upto (s : _root_.Go.ChangeSpec) : _root_.Go.OpenSpec := { _root_.Go.OpenSpec.ofChange s with cond := some uptoSmall }

/-- 'laws.FnTrailingZeros32', WHERE WHAT IT READS IS OF BULK AT MOST 1048576: true; the input reads as it did. -/
def fnTrailingZeros32UptoRow : OpenClaim := { program := "ytfeahfdepikodaadoor", sum := "dcdde8850b7ae61d43d44a11acdc78814070407894008896a13159c337b95dd5", func := "lib-bitlathe/laws.FnTrailingZeros32", spec := "fnTrailingZeros32", named := ["math/bits.deBruijn32tab"], apart := false, laid := [("math/bits.deBruijn32tab", laid_math_bits_deBruijn32tab)], narrowed := true }
def FnTrailingZeros32UptoSaid : Prop := fnTrailingZeros32UptoRow.holds Tryd.pinned (OpenSpec.upto fnTrailingZeros32Spec)

/-- 'laws.FnPowers32', WHERE WHAT IT READS IS OF BULK AT MOST 1048576: true; the input reads as it did. -/
def fnPowers32UptoRow : OpenClaim := { program := "ytfeahfdepikodaadoor", sum := "dcdde8850b7ae61d43d44a11acdc78814070407894008896a13159c337b95dd5", func := "lib-bitlathe/laws.FnPowers32", spec := "fnPowers32", named := ["math/bits.deBruijn32tab"], apart := false, laid := [("math/bits.deBruijn32tab", laid_math_bits_deBruijn32tab)], narrowed := true }
def FnPowers32UptoSaid : Prop := fnPowers32UptoRow.holds Tryd.pinned (OpenSpec.upto fnPowers32Spec)

/-- 'laws.FnPlaces32', WHERE WHAT IT READS IS OF BULK AT MOST 1048576: true; the input reads as it did. -/
def fnPlaces32UptoRow : OpenClaim := { program := "ytfeahfdepikodaadoor", sum := "dcdde8850b7ae61d43d44a11acdc78814070407894008896a13159c337b95dd5", func := "lib-bitlathe/laws.FnPlaces32", spec := "fnPlaces32", named := ["math/bits.deBruijn32tab"], apart := false, laid := [("math/bits.deBruijn32tab", laid_math_bits_deBruijn32tab)], narrowed := true }
def FnPlaces32UptoSaid : Prop := fnPlaces32UptoRow.holds Tryd.pinned (OpenSpec.upto fnPlaces32Spec)

/-- 'laws.FnLowest32', WHERE WHAT IT READS IS OF BULK AT MOST 1048576: true; the input reads as it did. -/
def fnLowest32UptoRow : OpenClaim := { program := "ytfeahfdepikodaadoor", sum := "dcdde8850b7ae61d43d44a11acdc78814070407894008896a13159c337b95dd5", func := "lib-bitlathe/laws.FnLowest32", spec := "fnLowest32", named := ["math/bits.deBruijn32tab"], apart := false, laid := [("math/bits.deBruijn32tab", laid_math_bits_deBruijn32tab)], narrowed := true }
def FnLowest32UptoSaid : Prop := fnLowest32UptoRow.holds Tryd.pinned (OpenSpec.upto fnLowest32Spec)

end Rows
end Go.Proofs.YtfeahfdepikodaaDoor

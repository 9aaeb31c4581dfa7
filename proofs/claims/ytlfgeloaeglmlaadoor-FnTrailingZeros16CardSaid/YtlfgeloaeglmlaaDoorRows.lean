/-
  NARROWER THAN 'FOR EVERY INPUT', by the rows' own cells (each row's printed sentence says how): FnTrailingZeros16: laid · FnPowers16: laid · FnLowest16: laid · FnPlaces16: laid.
  DERIVED. THE GIVEN ROWS OF THIS SEAT. 4 by the template 'for every input the law returns true; each argument reads behind the call as it read before'; 0 by the template 'total and deterministic' (their statements: YtlfgeloaeglmlaaDoorTotals.lean).
  GIVEN WITH THE SEED: the statements are not yours to turn. If you find one false, say at which input.
  Laid BY PROGRAM, IN A SANDBOX (cutbox-rows.mjs): the forced cells as the released guide's own fill.sh prints them over the translation fd3aacb02b66c376… (all of the seat's roots in one cut). By AI agents, Wed Nov 11 2026. No macro, syntax, notation, axiom, sorry.
-/
import Derived.Test.YtlfgeloaeglmlaaDoorChecked
import GoSem.Claim
import GoSem.ClaimJoined
import GoSem.ClaimMapViews
import Derived.JoinedTies
import Derived.KernelRfl
namespace Go.Proofs.YtlfgeloaeglmlaaDoor
/- THE CELL 'sum', in the pinned program and in every row, IS THE sha256 OF THE DUMP (.gsa) THAT YtlfgeloaeglmlaaDoorProg.lean LOADS. Nothing in Lean hashes anything: it is a label: what it is worth is what the hold of that sum in a sandbox is worth. -/
noncomputable def Tryd.pinned : Pinned := { name := "ytlfgeloaeglmlaadoor", sum := "fd3aacb02b66c376e7e5a128c23e5645aaf60b13fdefa32d87799f982ebf3efd", checked := Tryd.checked }
namespace Rows
def none {H : Type} : Left H := { results := [], args := [] }

/- WHAT THE LISTED PACKAGE-LEVEL VARIABLES READ AS WHEN THE CALL BEGINS. Each datum BY PROGRAM (the guide's laid-datum.mjs) off the statement by which the dump's own 'gosem.cut.vars' lays the variable. In a bare row this is a premise. The card (YtlfgeloaeglmlaaDoorCards.lean) ties it to the program's text. -/
def laid_math_bits_deBruijn32tab {H : Type} : DataW H := .agg [.lit (.int .u8 0), .lit (.int .u8 1), .lit (.int .u8 28), .lit (.int .u8 2), .lit (.int .u8 29), .lit (.int .u8 14), .lit (.int .u8 24), .lit (.int .u8 3), .lit (.int .u8 30), .lit (.int .u8 22), .lit (.int .u8 20), .lit (.int .u8 15), .lit (.int .u8 25), .lit (.int .u8 17), .lit (.int .u8 4), .lit (.int .u8 8), .lit (.int .u8 31), .lit (.int .u8 27), .lit (.int .u8 13), .lit (.int .u8 23), .lit (.int .u8 21), .lit (.int .u8 19), .lit (.int .u8 16), .lit (.int .u8 7), .lit (.int .u8 26), .lit (.int .u8 12), .lit (.int .u8 18), .lit (.int .u8 6), .lit (.int .u8 11), .lit (.int .u8 5), .lit (.int .u8 10), .lit (.int .u8 9)]

/-- 'laws.FnTrailingZeros16': WHATEVER THE INPUT: true; the input reads as it did. -/
def fnTrailingZeros16Spec : ChangeSpec := { name := "fnTrailingZeros16", fn := fun _ => fun
  | [d] => { results := [.lit (.bool true)], args := [d] }
  | _ => none }
def fnTrailingZeros16Row : OpenClaim := { program := "ytlfgeloaeglmlaadoor", sum := "fd3aacb02b66c376e7e5a128c23e5645aaf60b13fdefa32d87799f982ebf3efd", func := "lib-bitlathe/laws.FnTrailingZeros16", spec := "fnTrailingZeros16", named := ["math/bits.deBruijn32tab"], apart := false, laid := [("math/bits.deBruijn32tab", laid_math_bits_deBruijn32tab)] }
def FnTrailingZeros16Said : Prop := fnTrailingZeros16Row.holds Tryd.pinned (OpenSpec.ofChange fnTrailingZeros16Spec)

/-- ITS FALSE NEIGHBOUR: 'it returns false'. Refute it at one input. -/
def fnTrailingZeros16Wrong : ChangeSpec := { name := "fnTrailingZeros16", fn := fun _ => fun
  | [d] => { results := [.lit (.bool false)], args := [d] }
  | _ => none }
def FnTrailingZeros16WrongFalsely : Prop := fnTrailingZeros16Row.holds Tryd.pinned (OpenSpec.ofChange fnTrailingZeros16Wrong)

/-- 'laws.FnPowers16': WHATEVER THE INPUT: true; the input reads as it did. -/
def fnPowers16Spec : ChangeSpec := { name := "fnPowers16", fn := fun _ => fun
  | [d] => { results := [.lit (.bool true)], args := [d] }
  | _ => none }
def fnPowers16Row : OpenClaim := { program := "ytlfgeloaeglmlaadoor", sum := "fd3aacb02b66c376e7e5a128c23e5645aaf60b13fdefa32d87799f982ebf3efd", func := "lib-bitlathe/laws.FnPowers16", spec := "fnPowers16", named := ["math/bits.deBruijn32tab"], apart := false, laid := [("math/bits.deBruijn32tab", laid_math_bits_deBruijn32tab)] }
def FnPowers16Said : Prop := fnPowers16Row.holds Tryd.pinned (OpenSpec.ofChange fnPowers16Spec)

/-- ITS FALSE NEIGHBOUR: 'it returns false'. Refute it at one input. -/
def fnPowers16Wrong : ChangeSpec := { name := "fnPowers16", fn := fun _ => fun
  | [d] => { results := [.lit (.bool false)], args := [d] }
  | _ => none }
def FnPowers16WrongFalsely : Prop := fnPowers16Row.holds Tryd.pinned (OpenSpec.ofChange fnPowers16Wrong)

/-- 'laws.FnLowest16': WHATEVER THE INPUT: true; the input reads as it did. -/
def fnLowest16Spec : ChangeSpec := { name := "fnLowest16", fn := fun _ => fun
  | [d] => { results := [.lit (.bool true)], args := [d] }
  | _ => none }
def fnLowest16Row : OpenClaim := { program := "ytlfgeloaeglmlaadoor", sum := "fd3aacb02b66c376e7e5a128c23e5645aaf60b13fdefa32d87799f982ebf3efd", func := "lib-bitlathe/laws.FnLowest16", spec := "fnLowest16", named := ["math/bits.deBruijn32tab"], apart := false, laid := [("math/bits.deBruijn32tab", laid_math_bits_deBruijn32tab)] }
def FnLowest16Said : Prop := fnLowest16Row.holds Tryd.pinned (OpenSpec.ofChange fnLowest16Spec)

/-- ITS FALSE NEIGHBOUR: 'it returns false'. Refute it at one input. -/
def fnLowest16Wrong : ChangeSpec := { name := "fnLowest16", fn := fun _ => fun
  | [d] => { results := [.lit (.bool false)], args := [d] }
  | _ => none }
def FnLowest16WrongFalsely : Prop := fnLowest16Row.holds Tryd.pinned (OpenSpec.ofChange fnLowest16Wrong)

/-- 'laws.FnPlaces16': WHATEVER THE INPUT: true; the input reads as it did. -/
def fnPlaces16Spec : ChangeSpec := { name := "fnPlaces16", fn := fun _ => fun
  | [d] => { results := [.lit (.bool true)], args := [d] }
  | _ => none }
def fnPlaces16Row : OpenClaim := { program := "ytlfgeloaeglmlaadoor", sum := "fd3aacb02b66c376e7e5a128c23e5645aaf60b13fdefa32d87799f982ebf3efd", func := "lib-bitlathe/laws.FnPlaces16", spec := "fnPlaces16", named := ["math/bits.deBruijn32tab"], apart := false, laid := [("math/bits.deBruijn32tab", laid_math_bits_deBruijn32tab)] }
def FnPlaces16Said : Prop := fnPlaces16Row.holds Tryd.pinned (OpenSpec.ofChange fnPlaces16Spec)

/-- ITS FALSE NEIGHBOUR: 'it returns false'. Refute it at one input. -/
def fnPlaces16Wrong : ChangeSpec := { name := "fnPlaces16", fn := fun _ => fun
  | [d] => { results := [.lit (.bool false)], args := [d] }
  | _ => none }
def FnPlaces16WrongFalsely : Prop := fnPlaces16Row.holds Tryd.pinned (OpenSpec.ofChange fnPlaces16Wrong)

/- THE SECOND FORM. 'bulk': how many values and letters a reading holds, each counted each time it is reached (what is shared counts as often as it is met; a slice's spare places count too). A statement '..UptoSaid' is the law's where the arguments, and the package variables that the reading takes, are together of bulk at most 1048576: NARROWER than '..Said'. Prove '..Said' where nothing that the law and all that it calls make is longer than what came in: it says more and counts as full. Else prove '..UptoSaid'. A law counts once. -/
mutual
def uptoBulk {H : Type} : DataW H → Nat
  | .lit (.string bytes) => bytes.length + 1
  | .lit _ => 1
  | .nil => 1
  | .ptr d => uptoBulk d + 1
  | .slice elems spare => uptoBulkAll elems + uptoBulkAll spare + 1
  | .agg parts => uptoBulkAll parts + 1
  | .iface _ d => uptoBulk d + 1
  | .map entries => uptoBulkEntries entries + 1
  | .held _ => 1
def uptoBulkAll {H : Type} : List (DataW H) → Nat
  | [] => 0
  | d :: r => uptoBulk d + uptoBulkAll r
def uptoBulkEntries {H : Type} : List (Lit × DataW H) → Nat
  | [] => 0
  | x :: r => uptoBulkEntry x + uptoBulkEntries r
def uptoBulkEntry {H : Type} : Lit × DataW H → Nat
  | (.string bytes, d) => bytes.length + uptoBulk d + 1
  | (_, d) => uptoBulk d + 1
 end
def uptoSmall : (H : Type) → List (DataW H) → Bool := fun _ ds => decide (uptoBulkAll ds ≤ 1048576)
def OpenSpec.upto (s : _root_.Go.ChangeSpec) : _root_.Go.OpenSpec := { _root_.Go.OpenSpec.ofChange s with cond := some uptoSmall }

/-- 'laws.FnTrailingZeros16', WHERE WHAT IT READS IS OF BULK AT MOST 1048576: true; the input reads as it did. -/
def fnTrailingZeros16UptoRow : OpenClaim := { program := "ytlfgeloaeglmlaadoor", sum := "fd3aacb02b66c376e7e5a128c23e5645aaf60b13fdefa32d87799f982ebf3efd", func := "lib-bitlathe/laws.FnTrailingZeros16", spec := "fnTrailingZeros16", named := ["math/bits.deBruijn32tab"], apart := false, laid := [("math/bits.deBruijn32tab", laid_math_bits_deBruijn32tab)], narrowed := true }
def FnTrailingZeros16UptoSaid : Prop := fnTrailingZeros16UptoRow.holds Tryd.pinned (OpenSpec.upto fnTrailingZeros16Spec)

/-- 'laws.FnPowers16', WHERE WHAT IT READS IS OF BULK AT MOST 1048576: true; the input reads as it did. -/
def fnPowers16UptoRow : OpenClaim := { program := "ytlfgeloaeglmlaadoor", sum := "fd3aacb02b66c376e7e5a128c23e5645aaf60b13fdefa32d87799f982ebf3efd", func := "lib-bitlathe/laws.FnPowers16", spec := "fnPowers16", named := ["math/bits.deBruijn32tab"], apart := false, laid := [("math/bits.deBruijn32tab", laid_math_bits_deBruijn32tab)], narrowed := true }
def FnPowers16UptoSaid : Prop := fnPowers16UptoRow.holds Tryd.pinned (OpenSpec.upto fnPowers16Spec)

/-- 'laws.FnLowest16', WHERE WHAT IT READS IS OF BULK AT MOST 1048576: true; the input reads as it did. -/
def fnLowest16UptoRow : OpenClaim := { program := "ytlfgeloaeglmlaadoor", sum := "fd3aacb02b66c376e7e5a128c23e5645aaf60b13fdefa32d87799f982ebf3efd", func := "lib-bitlathe/laws.FnLowest16", spec := "fnLowest16", named := ["math/bits.deBruijn32tab"], apart := false, laid := [("math/bits.deBruijn32tab", laid_math_bits_deBruijn32tab)], narrowed := true }
def FnLowest16UptoSaid : Prop := fnLowest16UptoRow.holds Tryd.pinned (OpenSpec.upto fnLowest16Spec)

/-- 'laws.FnPlaces16', WHERE WHAT IT READS IS OF BULK AT MOST 1048576: true; the input reads as it did. -/
def fnPlaces16UptoRow : OpenClaim := { program := "ytlfgeloaeglmlaadoor", sum := "fd3aacb02b66c376e7e5a128c23e5645aaf60b13fdefa32d87799f982ebf3efd", func := "lib-bitlathe/laws.FnPlaces16", spec := "fnPlaces16", named := ["math/bits.deBruijn32tab"], apart := false, laid := [("math/bits.deBruijn32tab", laid_math_bits_deBruijn32tab)], narrowed := true }
def FnPlaces16UptoSaid : Prop := fnPlaces16UptoRow.holds Tryd.pinned (OpenSpec.upto fnPlaces16Spec)

end Rows
end Go.Proofs.YtlfgeloaeglmlaaDoor

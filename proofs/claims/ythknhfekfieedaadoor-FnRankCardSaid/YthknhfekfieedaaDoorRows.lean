/-
  NARROWER THAN 'FOR EVERY INPUT', by the rows' own cells (each row's printed sentence says how): FnWider32: laid · FnWider16: laid · FnWider8: laid · FnRank: laid · FnHalves: laid.
  DERIVED. THE GIVEN ROWS OF THIS SEAT. 5 by the template 'for every input the law returns true; each argument reads behind the call as it read before'; 0 by the template 'total and deterministic' (their statements: YthknhfekfieedaaDoorTotals.lean).
  GIVEN WITH THE SEED: the statements are not yours to turn. If you find one false, say at which input.
  Laid BY PROGRAM, IN A SANDBOX (cutbox-rows.mjs): the forced cells as the released guide's own fill.sh prints them over the translation f789ae8902e2d549… (all of the seat's roots in one cut). By AI agents, Wed Nov 11 2026. No macro, syntax, notation, axiom, sorry.
-/
import Derived.Test.YthknhfekfieedaaDoorChecked
import GoSem.Claim
import GoSem.ClaimJoined
import GoSem.ClaimMapViews
import Derived.JoinedTies
import Derived.KernelRfl
namespace Go.Proofs.YthknhfekfieedaaDoor
/- THE CELL 'sum', in the pinned program and in every row, IS THE sha256 OF THE DUMP (.gsa) THAT YthknhfekfieedaaDoorProg.lean LOADS. Nothing in Lean hashes anything: it is a label: what it is worth is what the hold of that sum in a sandbox is worth. -/
noncomputable def Tryd.pinned : Pinned := { name := "ythknhfekfieedaadoor", sum := "f789ae8902e2d54952b303890fa90181df9bb58e83da2dd0e1404a4d5b5bce4a", checked := Tryd.checked }
namespace Rows
def none {H : Type} : Left H := { results := [], args := [] }

/- WHAT THE LISTED PACKAGE-LEVEL VARIABLES READ AS WHEN THE CALL BEGINS. Each datum BY PROGRAM (the guide's laid-datum.mjs) off the statement by which the dump's own 'gosem.cut.vars' lays the variable. In a bare row this is a premise. The card (YthknhfekfieedaaDoorCards.lean) ties it to the program's text. -/
def laid_math_bits_deBruijn32tab {H : Type} : DataW H := .agg [.lit (.int .u8 0), .lit (.int .u8 1), .lit (.int .u8 28), .lit (.int .u8 2), .lit (.int .u8 29), .lit (.int .u8 14), .lit (.int .u8 24), .lit (.int .u8 3), .lit (.int .u8 30), .lit (.int .u8 22), .lit (.int .u8 20), .lit (.int .u8 15), .lit (.int .u8 25), .lit (.int .u8 17), .lit (.int .u8 4), .lit (.int .u8 8), .lit (.int .u8 31), .lit (.int .u8 27), .lit (.int .u8 13), .lit (.int .u8 23), .lit (.int .u8 21), .lit (.int .u8 19), .lit (.int .u8 16), .lit (.int .u8 7), .lit (.int .u8 26), .lit (.int .u8 12), .lit (.int .u8 18), .lit (.int .u8 6), .lit (.int .u8 11), .lit (.int .u8 5), .lit (.int .u8 10), .lit (.int .u8 9)]
def laid_math_bits_deBruijn64tab {H : Type} : DataW H := .agg [.lit (.int .u8 0), .lit (.int .u8 1), .lit (.int .u8 56), .lit (.int .u8 2), .lit (.int .u8 57), .lit (.int .u8 49), .lit (.int .u8 28), .lit (.int .u8 3), .lit (.int .u8 61), .lit (.int .u8 58), .lit (.int .u8 42), .lit (.int .u8 50), .lit (.int .u8 38), .lit (.int .u8 29), .lit (.int .u8 17), .lit (.int .u8 4), .lit (.int .u8 62), .lit (.int .u8 47), .lit (.int .u8 59), .lit (.int .u8 36), .lit (.int .u8 45), .lit (.int .u8 43), .lit (.int .u8 51), .lit (.int .u8 22), .lit (.int .u8 53), .lit (.int .u8 39), .lit (.int .u8 33), .lit (.int .u8 30), .lit (.int .u8 24), .lit (.int .u8 18), .lit (.int .u8 12), .lit (.int .u8 5), .lit (.int .u8 63), .lit (.int .u8 55), .lit (.int .u8 48), .lit (.int .u8 27), .lit (.int .u8 60), .lit (.int .u8 41), .lit (.int .u8 37), .lit (.int .u8 16), .lit (.int .u8 46), .lit (.int .u8 35), .lit (.int .u8 44), .lit (.int .u8 21), .lit (.int .u8 52), .lit (.int .u8 32), .lit (.int .u8 23), .lit (.int .u8 11), .lit (.int .u8 54), .lit (.int .u8 26), .lit (.int .u8 40), .lit (.int .u8 15), .lit (.int .u8 34), .lit (.int .u8 20), .lit (.int .u8 31), .lit (.int .u8 10), .lit (.int .u8 25), .lit (.int .u8 14), .lit (.int .u8 19), .lit (.int .u8 9), .lit (.int .u8 13), .lit (.int .u8 8), .lit (.int .u8 7), .lit (.int .u8 6)]

/-- 'laws.FnWider32': WHATEVER THE INPUT: true; the input reads as it did. -/
def fnWider32Spec : ChangeSpec := { name := "fnWider32", fn := fun _ => fun
  | [d] => { results := [.lit (.bool true)], args := [d] }
  | _ => none }
def fnWider32Row : OpenClaim := { program := "ythknhfekfieedaadoor", sum := "f789ae8902e2d54952b303890fa90181df9bb58e83da2dd0e1404a4d5b5bce4a", func := "lib-bitlathe/laws.FnWider32", spec := "fnWider32", named := ["math/bits.deBruijn32tab", "math/bits.deBruijn64tab"], apart := false, laid := [("math/bits.deBruijn32tab", laid_math_bits_deBruijn32tab), ("math/bits.deBruijn64tab", laid_math_bits_deBruijn64tab)] }
def FnWider32Said : Prop := fnWider32Row.holds Tryd.pinned (OpenSpec.ofChange fnWider32Spec)

/-- ITS FALSE NEIGHBOUR: 'it returns false'. Refute it at one input. -/
def fnWider32Wrong : ChangeSpec := { name := "fnWider32", fn := fun _ => fun
  | [d] => { results := [.lit (.bool false)], args := [d] }
  | _ => none }
def FnWider32WrongFalsely : Prop := fnWider32Row.holds Tryd.pinned (OpenSpec.ofChange fnWider32Wrong)

/-- 'laws.FnWider16': WHATEVER THE INPUT: true; the input reads as it did. -/
def fnWider16Spec : ChangeSpec := { name := "fnWider16", fn := fun _ => fun
  | [d] => { results := [.lit (.bool true)], args := [d] }
  | _ => none }
def fnWider16Row : OpenClaim := { program := "ythknhfekfieedaadoor", sum := "f789ae8902e2d54952b303890fa90181df9bb58e83da2dd0e1404a4d5b5bce4a", func := "lib-bitlathe/laws.FnWider16", spec := "fnWider16", named := ["math/bits.deBruijn32tab", "math/bits.deBruijn64tab"], apart := false, laid := [("math/bits.deBruijn32tab", laid_math_bits_deBruijn32tab), ("math/bits.deBruijn64tab", laid_math_bits_deBruijn64tab)] }
def FnWider16Said : Prop := fnWider16Row.holds Tryd.pinned (OpenSpec.ofChange fnWider16Spec)

/-- ITS FALSE NEIGHBOUR: 'it returns false'. Refute it at one input. -/
def fnWider16Wrong : ChangeSpec := { name := "fnWider16", fn := fun _ => fun
  | [d] => { results := [.lit (.bool false)], args := [d] }
  | _ => none }
def FnWider16WrongFalsely : Prop := fnWider16Row.holds Tryd.pinned (OpenSpec.ofChange fnWider16Wrong)

/-- 'laws.FnWider8': WHATEVER THE INPUT: true; the input reads as it did. -/
def fnWider8Spec : ChangeSpec := { name := "fnWider8", fn := fun _ => fun
  | [d] => { results := [.lit (.bool true)], args := [d] }
  | _ => none }
def fnWider8Row : OpenClaim := { program := "ythknhfekfieedaadoor", sum := "f789ae8902e2d54952b303890fa90181df9bb58e83da2dd0e1404a4d5b5bce4a", func := "lib-bitlathe/laws.FnWider8", spec := "fnWider8", named := ["math/bits.deBruijn32tab", "math/bits.deBruijn64tab"], apart := false, laid := [("math/bits.deBruijn32tab", laid_math_bits_deBruijn32tab), ("math/bits.deBruijn64tab", laid_math_bits_deBruijn64tab)] }
def FnWider8Said : Prop := fnWider8Row.holds Tryd.pinned (OpenSpec.ofChange fnWider8Spec)

/-- ITS FALSE NEIGHBOUR: 'it returns false'. Refute it at one input. -/
def fnWider8Wrong : ChangeSpec := { name := "fnWider8", fn := fun _ => fun
  | [d] => { results := [.lit (.bool false)], args := [d] }
  | _ => none }
def FnWider8WrongFalsely : Prop := fnWider8Row.holds Tryd.pinned (OpenSpec.ofChange fnWider8Wrong)

/-- 'laws.FnRank': WHATEVER THE INPUT: true; the input reads as it did. -/
def fnRankSpec : ChangeSpec := { name := "fnRank", fn := fun _ => fun
  | [d1, d2] => { results := [.lit (.bool true)], args := [d1, d2] }
  | _ => none }
def fnRankRow : OpenClaim := { program := "ythknhfekfieedaadoor", sum := "f789ae8902e2d54952b303890fa90181df9bb58e83da2dd0e1404a4d5b5bce4a", func := "lib-bitlathe/laws.FnRank", spec := "fnRank", named := ["math/bits.deBruijn64tab"], apart := false, laid := [("math/bits.deBruijn64tab", laid_math_bits_deBruijn64tab)] }
def FnRankSaid : Prop := fnRankRow.holds Tryd.pinned (OpenSpec.ofChange fnRankSpec)

/-- ITS FALSE NEIGHBOUR: 'it returns false'. Refute it at one input. -/
def fnRankWrong : ChangeSpec := { name := "fnRank", fn := fun _ => fun
  | [d1, d2] => { results := [.lit (.bool false)], args := [d1, d2] }
  | _ => none }
def FnRankWrongFalsely : Prop := fnRankRow.holds Tryd.pinned (OpenSpec.ofChange fnRankWrong)

/-- 'laws.FnHalves': WHATEVER THE INPUT: true; the input reads as it did. -/
def fnHalvesSpec : ChangeSpec := { name := "fnHalves", fn := fun _ => fun
  | [d] => { results := [.lit (.bool true)], args := [d] }
  | _ => none }
def fnHalvesRow : OpenClaim := { program := "ythknhfekfieedaadoor", sum := "f789ae8902e2d54952b303890fa90181df9bb58e83da2dd0e1404a4d5b5bce4a", func := "lib-bitlathe/laws.FnHalves", spec := "fnHalves", named := ["math/bits.deBruijn32tab", "math/bits.deBruijn64tab"], apart := false, laid := [("math/bits.deBruijn32tab", laid_math_bits_deBruijn32tab), ("math/bits.deBruijn64tab", laid_math_bits_deBruijn64tab)] }
def FnHalvesSaid : Prop := fnHalvesRow.holds Tryd.pinned (OpenSpec.ofChange fnHalvesSpec)

/-- ITS FALSE NEIGHBOUR: 'it returns false'. Refute it at one input. -/
def fnHalvesWrong : ChangeSpec := { name := "fnHalves", fn := fun _ => fun
  | [d] => { results := [.lit (.bool false)], args := [d] }
  | _ => none }
def FnHalvesWrongFalsely : Prop := fnHalvesRow.holds Tryd.pinned (OpenSpec.ofChange fnHalvesWrong)

/- THE SECOND FORM. 'bulk': how many values and letters a reading holds, each counted each time it is reached (what is shared counts as often as it is met; a slice's spare places count too). A statement '..UptoSaid' is the law's where the arguments, and the package variables that the reading takes, are together of bulk at most 1048576: NARROWER than '..Said'. Prove '..Said' where nothing that the law and all that it calls make is longer than what came in: it says more and counts as full. Else prove '..UptoSaid'. A law counts once. -/
mutual
def uptoBulk {H : Type} : DataW H → Nat
  | .lit (.string bytes) => bytes.length + 1
  | .lit _ => 1
  | .nil => 1
  | .ptr d => uptoBulk d + 1
  | .slice elems spare => uptoBulkAll elems + uptoBulkAll spare + 1
  | .agg parts => uptoBulkAll parts + 1
  | .iface _ d => uptoBulk d + 1
  | .map entries => uptoBulkEntries entries + 1
  | .held _ => 1
def uptoBulkAll {H : Type} : List (DataW H) → Nat
  | [] => 0
  | d :: r => uptoBulk d + uptoBulkAll r
def uptoBulkEntries {H : Type} : List (Lit × DataW H) → Nat
  | [] => 0
  | x :: r => uptoBulkEntry x + uptoBulkEntries r
def uptoBulkEntry {H : Type} : Lit × DataW H → Nat
  | (.string bytes, d) => bytes.length + uptoBulk d + 1
  | (_, d) => uptoBulk d + 1
 end
def uptoSmall : (H : Type) → List (DataW H) → Bool := fun _ ds => decide (uptoBulkAll ds ≤ 1048576)
def OpenSpec.upto (s : _root_.Go.ChangeSpec) : _root_.Go.OpenSpec := { _root_.Go.OpenSpec.ofChange s with cond := some uptoSmall }

/-- 'laws.FnWider32', WHERE WHAT IT READS IS OF BULK AT MOST 1048576: true; the input reads as it did. -/
def fnWider32UptoRow : OpenClaim := { program := "ythknhfekfieedaadoor", sum := "f789ae8902e2d54952b303890fa90181df9bb58e83da2dd0e1404a4d5b5bce4a", func := "lib-bitlathe/laws.FnWider32", spec := "fnWider32", named := ["math/bits.deBruijn32tab", "math/bits.deBruijn64tab"], apart := false, laid := [("math/bits.deBruijn32tab", laid_math_bits_deBruijn32tab), ("math/bits.deBruijn64tab", laid_math_bits_deBruijn64tab)], narrowed := true }
def FnWider32UptoSaid : Prop := fnWider32UptoRow.holds Tryd.pinned (OpenSpec.upto fnWider32Spec)

/-- 'laws.FnWider16', WHERE WHAT IT READS IS OF BULK AT MOST 1048576: true; the input reads as it did. -/
def fnWider16UptoRow : OpenClaim := { program := "ythknhfekfieedaadoor", sum := "f789ae8902e2d54952b303890fa90181df9bb58e83da2dd0e1404a4d5b5bce4a", func := "lib-bitlathe/laws.FnWider16", spec := "fnWider16", named := ["math/bits.deBruijn32tab", "math/bits.deBruijn64tab"], apart := false, laid := [("math/bits.deBruijn32tab", laid_math_bits_deBruijn32tab), ("math/bits.deBruijn64tab", laid_math_bits_deBruijn64tab)], narrowed := true }
def FnWider16UptoSaid : Prop := fnWider16UptoRow.holds Tryd.pinned (OpenSpec.upto fnWider16Spec)

/-- 'laws.FnWider8', WHERE WHAT IT READS IS OF BULK AT MOST 1048576: true; the input reads as it did. -/
def fnWider8UptoRow : OpenClaim := { program := "ythknhfekfieedaadoor", sum := "f789ae8902e2d54952b303890fa90181df9bb58e83da2dd0e1404a4d5b5bce4a", func := "lib-bitlathe/laws.FnWider8", spec := "fnWider8", named := ["math/bits.deBruijn32tab", "math/bits.deBruijn64tab"], apart := false, laid := [("math/bits.deBruijn32tab", laid_math_bits_deBruijn32tab), ("math/bits.deBruijn64tab", laid_math_bits_deBruijn64tab)], narrowed := true }
def FnWider8UptoSaid : Prop := fnWider8UptoRow.holds Tryd.pinned (OpenSpec.upto fnWider8Spec)

/-- 'laws.FnRank', WHERE WHAT IT READS IS OF BULK AT MOST 1048576: true; the input reads as it did. -/
def fnRankUptoRow : OpenClaim := { program := "ythknhfekfieedaadoor", sum := "f789ae8902e2d54952b303890fa90181df9bb58e83da2dd0e1404a4d5b5bce4a", func := "lib-bitlathe/laws.FnRank", spec := "fnRank", named := ["math/bits.deBruijn64tab"], apart := false, laid := [("math/bits.deBruijn64tab", laid_math_bits_deBruijn64tab)], narrowed := true }
def FnRankUptoSaid : Prop := fnRankUptoRow.holds Tryd.pinned (OpenSpec.upto fnRankSpec)

/-- 'laws.FnHalves', WHERE WHAT IT READS IS OF BULK AT MOST 1048576: true; the input reads as it did. -/
def fnHalvesUptoRow : OpenClaim := { program := "ythknhfekfieedaadoor", sum := "f789ae8902e2d54952b303890fa90181df9bb58e83da2dd0e1404a4d5b5bce4a", func := "lib-bitlathe/laws.FnHalves", spec := "fnHalves", named := ["math/bits.deBruijn32tab", "math/bits.deBruijn64tab"], apart := false, laid := [("math/bits.deBruijn32tab", laid_math_bits_deBruijn32tab), ("math/bits.deBruijn64tab", laid_math_bits_deBruijn64tab)], narrowed := true }
def FnHalvesUptoSaid : Prop := fnHalvesUptoRow.holds Tryd.pinned (OpenSpec.upto fnHalvesSpec)

end Rows
end Go.Proofs.YthknhfekfieedaaDoor

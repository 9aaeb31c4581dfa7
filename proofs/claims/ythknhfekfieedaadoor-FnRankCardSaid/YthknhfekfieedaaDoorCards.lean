/-
  DERIVED. GIVEN WITH THE SEED: THE CARDS: each row of YthknhfekfieedaaDoorRows.lean that lists a variable, with what it lists TIED to the program's text (the seventh form; the later family's looks); each row that meets fmt, with fmt's text TOLD by the authors' own Lean function (tested against real Go, not proved from fmt's source: count such statements apart). THE CARD IS WHAT COUNTS. Prove the row's statement (the work); the ties are given (YthknhfekfieedaaDoorTie.lean); close each card by the builder's one call (the guide's Derived/Test/ToyasCard.lean, 'card_holds'). Laid BY PROGRAM, IN A SANDBOX (cutbox-door.mjs). By AI agents, Wed Nov 11 2026. No macro, syntax, notation, axiom, sorry.
-/
import Derived.Test.YthknhfekfieedaaDoorRows
import GoSem.ClaimSeven
namespace Go.Proofs.YthknhfekfieedaaDoor
namespace Rows

/-- THE TIED CARD OF 'laws.FnWider32'. -/
def fnWider32Card : Claim7 := { stood := { row := fnWider32Row, standIns := [], harness := (true, "a64ec624fae599c5f7732de1fbd97dc514aa496ffcdaef830241e774600b44b9"), looks := false }, kinds := [], alts := [], laidByText := true, laidKinds := [.data, .data], laidTests := true, laidLooks := .later }
def FnWider32CardSaid : Prop := Claim7.holds Tryd.pinned (.plain (OpenSpec.ofChange fnWider32Spec)) fnWider32Card

/-- THE TIED CARD OF 'laws.FnWider16'. -/
def fnWider16Card : Claim7 := { stood := { row := fnWider16Row, standIns := [], harness := (true, "a64ec624fae599c5f7732de1fbd97dc514aa496ffcdaef830241e774600b44b9"), looks := false }, kinds := [], alts := [], laidByText := true, laidKinds := [.data, .data], laidTests := true, laidLooks := .later }
def FnWider16CardSaid : Prop := Claim7.holds Tryd.pinned (.plain (OpenSpec.ofChange fnWider16Spec)) fnWider16Card

/-- THE TIED CARD OF 'laws.FnWider8'. -/
def fnWider8Card : Claim7 := { stood := { row := fnWider8Row, standIns := [], harness := (true, "a64ec624fae599c5f7732de1fbd97dc514aa496ffcdaef830241e774600b44b9"), looks := false }, kinds := [], alts := [], laidByText := true, laidKinds := [.data, .data], laidTests := true, laidLooks := .later }
def FnWider8CardSaid : Prop := Claim7.holds Tryd.pinned (.plain (OpenSpec.ofChange fnWider8Spec)) fnWider8Card

/-- THE TIED CARD OF 'laws.FnRank'. -/
def fnRankCard : Claim7 := { stood := { row := fnRankRow, standIns := [], harness := (true, "a64ec624fae599c5f7732de1fbd97dc514aa496ffcdaef830241e774600b44b9"), looks := false }, kinds := [], alts := [], laidByText := true, laidKinds := [.data], laidTests := true, laidLooks := .later }
def FnRankCardSaid : Prop := Claim7.holds Tryd.pinned (.plain (OpenSpec.ofChange fnRankSpec)) fnRankCard

/-- THE TIED CARD OF 'laws.FnHalves'. -/
def fnHalvesCard : Claim7 := { stood := { row := fnHalvesRow, standIns := [], harness := (true, "a64ec624fae599c5f7732de1fbd97dc514aa496ffcdaef830241e774600b44b9"), looks := false }, kinds := [], alts := [], laidByText := true, laidKinds := [.data, .data], laidTests := true, laidLooks := .later }
def FnHalvesCardSaid : Prop := Claim7.holds Tryd.pinned (.plain (OpenSpec.ofChange fnHalvesSpec)) fnHalvesCard

/-- THE SECOND FORM's CARD OF 'laws.FnWider32'. -/
def fnWider32UptoCard : Claim7 := { stood := { row := fnWider32UptoRow, standIns := [], harness := (true, "a64ec624fae599c5f7732de1fbd97dc514aa496ffcdaef830241e774600b44b9"), looks := false }, kinds := [], alts := [], laidByText := true, laidKinds := [.data, .data], laidTests := true, laidLooks := .later }
def FnWider32UptoCardSaid : Prop := Claim7.holds Tryd.pinned (.plain (OpenSpec.upto fnWider32Spec)) fnWider32UptoCard

/-- THE SECOND FORM's CARD OF 'laws.FnWider16'. -/
def fnWider16UptoCard : Claim7 := { stood := { row := fnWider16UptoRow, standIns := [], harness := (true, "a64ec624fae599c5f7732de1fbd97dc514aa496ffcdaef830241e774600b44b9"), looks := false }, kinds := [], alts := [], laidByText := true, laidKinds := [.data, .data], laidTests := true, laidLooks := .later }
def FnWider16UptoCardSaid : Prop := Claim7.holds Tryd.pinned (.plain (OpenSpec.upto fnWider16Spec)) fnWider16UptoCard

/-- THE SECOND FORM's CARD OF 'laws.FnWider8'. -/
def fnWider8UptoCard : Claim7 := { stood := { row := fnWider8UptoRow, standIns := [], harness := (true, "a64ec624fae599c5f7732de1fbd97dc514aa496ffcdaef830241e774600b44b9"), looks := false }, kinds := [], alts := [], laidByText := true, laidKinds := [.data, .data], laidTests := true, laidLooks := .later }
def FnWider8UptoCardSaid : Prop := Claim7.holds Tryd.pinned (.plain (OpenSpec.upto fnWider8Spec)) fnWider8UptoCard

/-- THE SECOND FORM's CARD OF 'laws.FnRank'. -/
def fnRankUptoCard : Claim7 := { stood := { row := fnRankUptoRow, standIns := [], harness := (true, "a64ec624fae599c5f7732de1fbd97dc514aa496ffcdaef830241e774600b44b9"), looks := false }, kinds := [], alts := [], laidByText := true, laidKinds := [.data], laidTests := true, laidLooks := .later }
def FnRankUptoCardSaid : Prop := Claim7.holds Tryd.pinned (.plain (OpenSpec.upto fnRankSpec)) fnRankUptoCard

/-- THE SECOND FORM's CARD OF 'laws.FnHalves'. -/
def fnHalvesUptoCard : Claim7 := { stood := { row := fnHalvesUptoRow, standIns := [], harness := (true, "a64ec624fae599c5f7732de1fbd97dc514aa496ffcdaef830241e774600b44b9"), looks := false }, kinds := [], alts := [], laidByText := true, laidKinds := [.data, .data], laidTests := true, laidLooks := .later }
def FnHalvesUptoCardSaid : Prop := Claim7.holds Tryd.pinned (.plain (OpenSpec.upto fnHalvesSpec)) fnHalvesUptoCard
end Rows
end Go.Proofs.YthknhfekfieedaaDoor

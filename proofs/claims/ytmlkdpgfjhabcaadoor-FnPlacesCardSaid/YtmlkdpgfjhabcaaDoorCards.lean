/-
  DERIVED. GIVEN WITH THE SEED: THE CARDS: each row of YtmlkdpgfjhabcaaDoorRows.lean that lists a variable, with what it lists TIED to the program's text (the seventh form; the later family's looks); each row that meets fmt, with fmt's text TOLD by the authors' own Lean function (tested against real Go, not proved from fmt's source: count such statements apart). THE CARD IS WHAT COUNTS. Prove the row's statement (the work); the ties are given (YtmlkdpgfjhabcaaDoorTie.lean); close each card by the builder's one call (the guide's Derived/Test/ToyasCard.lean, 'card_holds'). Laid BY PROGRAM, IN A SANDBOX (cutbox-door.mjs). By AI agents, Wed Nov 11 2026. No macro, syntax, notation, axiom, sorry.
-/
import Derived.Test.YtmlkdpgfjhabcaaDoorRows
import GoSem.ClaimSeven
namespace Go.Proofs.YtmlkdpgfjhabcaaDoor
namespace Rows

/-- THE TIED CARD OF 'laws.FnPlaces16'. -/
def fnPlaces16Card : Claim7 := { stood := { row := fnPlaces16Row, standIns := [], harness := (true, "2f4ce959dd897cf83d99fcdcc12f9914249689cc19ea5242a6972f394550a2a6"), looks := false }, kinds := [], alts := [], laidByText := true, laidKinds := [.data], laidTests := true, laidLooks := .later }
def FnPlaces16CardSaid : Prop := Claim7.holds Tryd.pinned (.plain (OpenSpec.ofChange fnPlaces16Spec)) fnPlaces16Card

/-- THE TIED CARD OF 'laws.FnPlaces32'. -/
def fnPlaces32Card : Claim7 := { stood := { row := fnPlaces32Row, standIns := [], harness := (true, "2f4ce959dd897cf83d99fcdcc12f9914249689cc19ea5242a6972f394550a2a6"), looks := false }, kinds := [], alts := [], laidByText := true, laidKinds := [.data], laidTests := true, laidLooks := .later }
def FnPlaces32CardSaid : Prop := Claim7.holds Tryd.pinned (.plain (OpenSpec.ofChange fnPlaces32Spec)) fnPlaces32Card

/-- THE TIED CARD OF 'laws.FnPlaces64'. -/
def fnPlaces64Card : Claim7 := { stood := { row := fnPlaces64Row, standIns := [], harness := (true, "2f4ce959dd897cf83d99fcdcc12f9914249689cc19ea5242a6972f394550a2a6"), looks := false }, kinds := [], alts := [], laidByText := true, laidKinds := [.data], laidTests := true, laidLooks := .later }
def FnPlaces64CardSaid : Prop := Claim7.holds Tryd.pinned (.plain (OpenSpec.ofChange fnPlaces64Spec)) fnPlaces64Card

/-- THE TIED CARD OF 'laws.FnPlaces'. -/
def fnPlacesCard : Claim7 := { stood := { row := fnPlacesRow, standIns := [], harness := (true, "2f4ce959dd897cf83d99fcdcc12f9914249689cc19ea5242a6972f394550a2a6"), looks := false }, kinds := [], alts := [], laidByText := true, laidKinds := [.data, .data], laidTests := true, laidLooks := .later }
def FnPlacesCardSaid : Prop := Claim7.holds Tryd.pinned (.plain (OpenSpec.ofChange fnPlacesSpec)) fnPlacesCard

/-- THE SECOND FORM's CARD OF 'laws.FnPlaces16'. -/
def fnPlaces16UptoCard : Claim7 := { stood := { row := fnPlaces16UptoRow, standIns := [], harness := (true, "2f4ce959dd897cf83d99fcdcc12f9914249689cc19ea5242a6972f394550a2a6"), looks := false }, kinds := [], alts := [], laidByText := true, laidKinds := [.data], laidTests := true, laidLooks := .later }
def FnPlaces16UptoCardSaid : Prop := Claim7.holds Tryd.pinned (.plain (OpenSpec.upto fnPlaces16Spec)) fnPlaces16UptoCard

/-- THE SECOND FORM's CARD OF 'laws.FnPlaces32'. -/
def fnPlaces32UptoCard : Claim7 := { stood := { row := fnPlaces32UptoRow, standIns := [], harness := (true, "2f4ce959dd897cf83d99fcdcc12f9914249689cc19ea5242a6972f394550a2a6"), looks := false }, kinds := [], alts := [], laidByText := true, laidKinds := [.data], laidTests := true, laidLooks := .later }
def FnPlaces32UptoCardSaid : Prop := Claim7.holds Tryd.pinned (.plain (OpenSpec.upto fnPlaces32Spec)) fnPlaces32UptoCard

/-- THE SECOND FORM's CARD OF 'laws.FnPlaces64'. -/
def fnPlaces64UptoCard : Claim7 := { stood := { row := fnPlaces64UptoRow, standIns := [], harness := (true, "2f4ce959dd897cf83d99fcdcc12f9914249689cc19ea5242a6972f394550a2a6"), looks := false }, kinds := [], alts := [], laidByText := true, laidKinds := [.data], laidTests := true, laidLooks := .later }
def FnPlaces64UptoCardSaid : Prop := Claim7.holds Tryd.pinned (.plain (OpenSpec.upto fnPlaces64Spec)) fnPlaces64UptoCard

/-- THE SECOND FORM's CARD OF 'laws.FnPlaces'. -/
def fnPlacesUptoCard : Claim7 := { stood := { row := fnPlacesUptoRow, standIns := [], harness := (true, "2f4ce959dd897cf83d99fcdcc12f9914249689cc19ea5242a6972f394550a2a6"), looks := false }, kinds := [], alts := [], laidByText := true, laidKinds := [.data, .data], laidTests := true, laidLooks := .later }
def FnPlacesUptoCardSaid : Prop := Claim7.holds Tryd.pinned (.plain (OpenSpec.upto fnPlacesSpec)) fnPlacesUptoCard
end Rows
end Go.Proofs.YtmlkdpgfjhabcaaDoor

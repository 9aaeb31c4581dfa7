/-
  DERIVED. GIVEN WITH THE SEED: THE CARDS: each row of YtbliimclmdigcaaDoorRows.lean that lists a variable, with what it lists TIED to the program's text (the seventh form; the later family's looks); each row that meets fmt, with fmt's text TOLD by the authors' own Lean function (tested against real Go, not proved from fmt's source: count such statements apart). THE CARD IS WHAT COUNTS. Prove the row's statement (the work); the ties are given (YtbliimclmdigcaaDoorTie.lean); close each card by the builder's one call (the guide's Derived/Test/ToyasCard.lean, 'card_holds'). Laid BY PROGRAM, IN A SANDBOX (cutbox-door.mjs). By AI agents, Wed Nov 11 2026. No macro, syntax, notation, axiom, sorry.
-/
import Derived.Test.YtbliimclmdigcaaDoorRows
import GoSem.ClaimSeven
namespace Go.Proofs.YtbliimclmdigcaaDoor
namespace Rows

/-- THE TIED CARD OF 'laws.FnTrailingZeros'. -/
def fnTrailingZerosCard : Claim7 := { stood := { row := fnTrailingZerosRow, standIns := [], harness := (true, "6fbb984a8a7f332c2a6bc5b4b5dc4489ab382286597674fef06abd9098c6b1a9"), looks := false }, kinds := [], alts := [], laidByText := true, laidKinds := [.data, .data], laidTests := true, laidLooks := .later }
def FnTrailingZerosCardSaid : Prop := Claim7.holds Tryd.pinned (.plain (OpenSpec.ofChange fnTrailingZerosSpec)) fnTrailingZerosCard

/-- THE TIED CARD OF 'laws.FnPowers'. -/
def fnPowersCard : Claim7 := { stood := { row := fnPowersRow, standIns := [], harness := (true, "6fbb984a8a7f332c2a6bc5b4b5dc4489ab382286597674fef06abd9098c6b1a9"), looks := false }, kinds := [], alts := [], laidByText := true, laidKinds := [.data, .data], laidTests := true, laidLooks := .later }
def FnPowersCardSaid : Prop := Claim7.holds Tryd.pinned (.plain (OpenSpec.ofChange fnPowersSpec)) fnPowersCard

/-- THE TIED CARD OF 'laws.FnPlaces'. -/
def fnPlacesCard : Claim7 := { stood := { row := fnPlacesRow, standIns := [], harness := (true, "6fbb984a8a7f332c2a6bc5b4b5dc4489ab382286597674fef06abd9098c6b1a9"), looks := false }, kinds := [], alts := [], laidByText := true, laidKinds := [.data, .data], laidTests := true, laidLooks := .later }
def FnPlacesCardSaid : Prop := Claim7.holds Tryd.pinned (.plain (OpenSpec.ofChange fnPlacesSpec)) fnPlacesCard

/-- THE TIED CARD OF 'laws.FnLowest'. -/
def fnLowestCard : Claim7 := { stood := { row := fnLowestRow, standIns := [], harness := (true, "6fbb984a8a7f332c2a6bc5b4b5dc4489ab382286597674fef06abd9098c6b1a9"), looks := false }, kinds := [], alts := [], laidByText := true, laidKinds := [.data, .data], laidTests := true, laidLooks := .later }
def FnLowestCardSaid : Prop := Claim7.holds Tryd.pinned (.plain (OpenSpec.ofChange fnLowestSpec)) fnLowestCard

/-- THE SECOND FORM's CARD OF 'laws.FnTrailingZeros'. -/
def fnTrailingZerosUptoCard : Claim7 := { stood := { row := fnTrailingZerosUptoRow, standIns := [], harness := (true, "6fbb984a8a7f332c2a6bc5b4b5dc4489ab382286597674fef06abd9098c6b1a9"), looks := false }, kinds := [], alts := [], laidByText := true, laidKinds := [.data, .data], laidTests := true, laidLooks := .later }
def FnTrailingZerosUptoCardSaid : Prop := Claim7.holds Tryd.pinned (.plain (OpenSpec.upto fnTrailingZerosSpec)) fnTrailingZerosUptoCard

/-- THE SECOND FORM's CARD OF 'laws.FnPowers'. -/
def fnPowersUptoCard : Claim7 := { stood := { row := fnPowersUptoRow, standIns := [], harness := (true, "6fbb984a8a7f332c2a6bc5b4b5dc4489ab382286597674fef06abd9098c6b1a9"), looks := false }, kinds := [], alts := [], laidByText := true, laidKinds := [.data, .data], laidTests := true, laidLooks := .later }
def FnPowersUptoCardSaid : Prop := Claim7.holds Tryd.pinned (.plain (OpenSpec.upto fnPowersSpec)) fnPowersUptoCard

/-- THE SECOND FORM's CARD OF 'laws.FnPlaces'. -/
def fnPlacesUptoCard : Claim7 := { stood := { row := fnPlacesUptoRow, standIns := [], harness := (true, "6fbb984a8a7f332c2a6bc5b4b5dc4489ab382286597674fef06abd9098c6b1a9"), looks := false }, kinds := [], alts := [], laidByText := true, laidKinds := [.data, .data], laidTests := true, laidLooks := .later }
def FnPlacesUptoCardSaid : Prop := Claim7.holds Tryd.pinned (.plain (OpenSpec.upto fnPlacesSpec)) fnPlacesUptoCard

/-- THE SECOND FORM's CARD OF 'laws.FnLowest'. -/
def fnLowestUptoCard : Claim7 := { stood := { row := fnLowestUptoRow, standIns := [], harness := (true, "6fbb984a8a7f332c2a6bc5b4b5dc4489ab382286597674fef06abd9098c6b1a9"), looks := false }, kinds := [], alts := [], laidByText := true, laidKinds := [.data, .data], laidTests := true, laidLooks := .later }
def FnLowestUptoCardSaid : Prop := Claim7.holds Tryd.pinned (.plain (OpenSpec.upto fnLowestSpec)) fnLowestUptoCard
end Rows
end Go.Proofs.YtbliimclmdigcaaDoor

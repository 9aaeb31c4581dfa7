/-
  DERIVED. GIVEN WITH THE SEED: THE CARDS: each row of YtlfgeloaeglmlaaDoorRows.lean that lists a variable, with what it lists TIED to the program's text (the seventh form; the later family's looks); each row that meets fmt, with fmt's text TOLD by the authors' own Lean function (tested against real Go, not proved from fmt's source: count such statements apart). THE CARD IS WHAT COUNTS. Prove the row's statement (the work); the ties are given (YtlfgeloaeglmlaaDoorTie.lean); close each card by the builder's one call (the guide's Derived/Test/ToyasCard.lean, 'card_holds'). Laid BY PROGRAM, IN A SANDBOX (cutbox-door.mjs). By AI agents, Wed Nov 11 2026. No macro, syntax, notation, axiom, sorry.
-/
import Derived.Test.YtlfgeloaeglmlaaDoorRows
import GoSem.ClaimSeven
namespace Go.Proofs.YtlfgeloaeglmlaaDoor
namespace Rows

/-- THE TIED CARD OF 'laws.FnTrailingZeros16'. -/
def fnTrailingZeros16Card : Claim7 := { stood := { row := fnTrailingZeros16Row, standIns := [], harness := (true, "1a6e445c25334e6566033354e9e4f0326c350c37545ed82dd2605ec83158a6c7"), looks := false }, kinds := [], alts := [], laidByText := true, laidKinds := [.data], laidTests := true, laidLooks := .later }
def FnTrailingZeros16CardSaid : Prop := Claim7.holds Tryd.pinned (.plain (OpenSpec.ofChange fnTrailingZeros16Spec)) fnTrailingZeros16Card

/-- THE TIED CARD OF 'laws.FnPowers16'. -/
def fnPowers16Card : Claim7 := { stood := { row := fnPowers16Row, standIns := [], harness := (true, "1a6e445c25334e6566033354e9e4f0326c350c37545ed82dd2605ec83158a6c7"), looks := false }, kinds := [], alts := [], laidByText := true, laidKinds := [.data], laidTests := true, laidLooks := .later }
def FnPowers16CardSaid : Prop := Claim7.holds Tryd.pinned (.plain (OpenSpec.ofChange fnPowers16Spec)) fnPowers16Card

/-- THE TIED CARD OF 'laws.FnLowest16'. -/
def fnLowest16Card : Claim7 := { stood := { row := fnLowest16Row, standIns := [], harness := (true, "1a6e445c25334e6566033354e9e4f0326c350c37545ed82dd2605ec83158a6c7"), looks := false }, kinds := [], alts := [], laidByText := true, laidKinds := [.data], laidTests := true, laidLooks := .later }
def FnLowest16CardSaid : Prop := Claim7.holds Tryd.pinned (.plain (OpenSpec.ofChange fnLowest16Spec)) fnLowest16Card

/-- THE TIED CARD OF 'laws.FnPlaces16'. -/
def fnPlaces16Card : Claim7 := { stood := { row := fnPlaces16Row, standIns := [], harness := (true, "1a6e445c25334e6566033354e9e4f0326c350c37545ed82dd2605ec83158a6c7"), looks := false }, kinds := [], alts := [], laidByText := true, laidKinds := [.data], laidTests := true, laidLooks := .later }
def FnPlaces16CardSaid : Prop := Claim7.holds Tryd.pinned (.plain (OpenSpec.ofChange fnPlaces16Spec)) fnPlaces16Card

/-- THE SECOND FORM's CARD OF 'laws.FnTrailingZeros16'. -/
def fnTrailingZeros16UptoCard : Claim7 := { stood := { row := fnTrailingZeros16UptoRow, standIns := [], harness := (true, "1a6e445c25334e6566033354e9e4f0326c350c37545ed82dd2605ec83158a6c7"), looks := false }, kinds := [], alts := [], laidByText := true, laidKinds := [.data], laidTests := true, laidLooks := .later }
def FnTrailingZeros16UptoCardSaid : Prop := Claim7.holds Tryd.pinned (.plain (OpenSpec.upto fnTrailingZeros16Spec)) fnTrailingZeros16UptoCard

/-- THE SECOND FORM's CARD OF 'laws.FnPowers16'. -/
def fnPowers16UptoCard : Claim7 := { stood := { row := fnPowers16UptoRow, standIns := [], harness := (true, "1a6e445c25334e6566033354e9e4f0326c350c37545ed82dd2605ec83158a6c7"), looks := false }, kinds := [], alts := [], laidByText := true, laidKinds := [.data], laidTests := true, laidLooks := .later }
def FnPowers16UptoCardSaid : Prop := Claim7.holds Tryd.pinned (.plain (OpenSpec.upto fnPowers16Spec)) fnPowers16UptoCard

/-- THE SECOND FORM's CARD OF 'laws.FnLowest16'. -/
def fnLowest16UptoCard : Claim7 := { stood := { row := fnLowest16UptoRow, standIns := [], harness := (true, "1a6e445c25334e6566033354e9e4f0326c350c37545ed82dd2605ec83158a6c7"), looks := false }, kinds := [], alts := [], laidByText := true, laidKinds := [.data], laidTests := true, laidLooks := .later }
def FnLowest16UptoCardSaid : Prop := Claim7.holds Tryd.pinned (.plain (OpenSpec.upto fnLowest16Spec)) fnLowest16UptoCard

/-- THE SECOND FORM's CARD OF 'laws.FnPlaces16'. -/
def fnPlaces16UptoCard : Claim7 := { stood := { row := fnPlaces16UptoRow, standIns := [], harness := (true, "1a6e445c25334e6566033354e9e4f0326c350c37545ed82dd2605ec83158a6c7"), looks := false }, kinds := [], alts := [], laidByText := true, laidKinds := [.data], laidTests := true, laidLooks := .later }
def FnPlaces16UptoCardSaid : Prop := Claim7.holds Tryd.pinned (.plain (OpenSpec.upto fnPlaces16Spec)) fnPlaces16UptoCard
end Rows
end Go.Proofs.YtlfgeloaeglmlaaDoor

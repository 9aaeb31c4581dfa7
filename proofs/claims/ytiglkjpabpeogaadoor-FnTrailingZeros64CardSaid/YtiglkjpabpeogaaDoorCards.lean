/-
  DERIVED. GIVEN WITH THE SEED: THE CARDS: each row of YtiglkjpabpeogaaDoorRows.lean that lists a variable, with what it lists TIED to the program's text (the seventh form; the later family's looks); each row that meets fmt, with fmt's text TOLD by the authors' own Lean function (tested against real Go, not proved from fmt's source: count such statements apart). THE CARD IS WHAT COUNTS. Prove the row's statement (the work); the ties are given (YtiglkjpabpeogaaDoorTie.lean); close each card by the builder's one call (the guide's Derived/Test/ToyasCard.lean, 'card_holds'). Laid BY PROGRAM, IN A SANDBOX (cutbox-door.mjs). By AI agents, Wed Nov 11 2026. No macro, syntax, notation, axiom, sorry.
-/
import Derived.Test.YtiglkjpabpeogaaDoorRows
import GoSem.ClaimSeven
namespace Go.Proofs.YtiglkjpabpeogaaDoor
namespace Rows

/-- THE TIED CARD OF 'laws.FnTrailingZeros64'. -/
def fnTrailingZeros64Card : Claim7 := { stood := { row := fnTrailingZeros64Row, standIns := [], harness := (true, "9e128c32c06740b0cb2b0cc293a180cbbcb43b9f3d07b51d4f39781f1717506a"), looks := false }, kinds := [], alts := [], laidByText := true, laidKinds := [.data], laidTests := true, laidLooks := .later }
def FnTrailingZeros64CardSaid : Prop := Claim7.holds Tryd.pinned (.plain (OpenSpec.ofChange fnTrailingZeros64Spec)) fnTrailingZeros64Card

/-- THE TIED CARD OF 'laws.FnPowers64'. -/
def fnPowers64Card : Claim7 := { stood := { row := fnPowers64Row, standIns := [], harness := (true, "9e128c32c06740b0cb2b0cc293a180cbbcb43b9f3d07b51d4f39781f1717506a"), looks := false }, kinds := [], alts := [], laidByText := true, laidKinds := [.data], laidTests := true, laidLooks := .later }
def FnPowers64CardSaid : Prop := Claim7.holds Tryd.pinned (.plain (OpenSpec.ofChange fnPowers64Spec)) fnPowers64Card

/-- THE TIED CARD OF 'laws.FnPlaces64'. -/
def fnPlaces64Card : Claim7 := { stood := { row := fnPlaces64Row, standIns := [], harness := (true, "9e128c32c06740b0cb2b0cc293a180cbbcb43b9f3d07b51d4f39781f1717506a"), looks := false }, kinds := [], alts := [], laidByText := true, laidKinds := [.data], laidTests := true, laidLooks := .later }
def FnPlaces64CardSaid : Prop := Claim7.holds Tryd.pinned (.plain (OpenSpec.ofChange fnPlaces64Spec)) fnPlaces64Card

/-- THE TIED CARD OF 'laws.FnLowest64'. -/
def fnLowest64Card : Claim7 := { stood := { row := fnLowest64Row, standIns := [], harness := (true, "9e128c32c06740b0cb2b0cc293a180cbbcb43b9f3d07b51d4f39781f1717506a"), looks := false }, kinds := [], alts := [], laidByText := true, laidKinds := [.data], laidTests := true, laidLooks := .later }
def FnLowest64CardSaid : Prop := Claim7.holds Tryd.pinned (.plain (OpenSpec.ofChange fnLowest64Spec)) fnLowest64Card

/-- THE SECOND FORM's CARD OF 'laws.FnTrailingZeros64'. -/
def fnTrailingZeros64UptoCard : Claim7 := { stood := { row := fnTrailingZeros64UptoRow, standIns := [], harness := (true, "9e128c32c06740b0cb2b0cc293a180cbbcb43b9f3d07b51d4f39781f1717506a"), looks := false }, kinds := [], alts := [], laidByText := true, laidKinds := [.data], laidTests := true, laidLooks := .later }
def FnTrailingZeros64UptoCardSaid : Prop := Claim7.holds Tryd.pinned (.plain (OpenSpec.upto fnTrailingZeros64Spec)) fnTrailingZeros64UptoCard

/-- THE SECOND FORM's CARD OF 'laws.FnPowers64'. -/
def fnPowers64UptoCard : Claim7 := { stood := { row := fnPowers64UptoRow, standIns := [], harness := (true, "9e128c32c06740b0cb2b0cc293a180cbbcb43b9f3d07b51d4f39781f1717506a"), looks := false }, kinds := [], alts := [], laidByText := true, laidKinds := [.data], laidTests := true, laidLooks := .later }
def FnPowers64UptoCardSaid : Prop := Claim7.holds Tryd.pinned (.plain (OpenSpec.upto fnPowers64Spec)) fnPowers64UptoCard

/-- THE SECOND FORM's CARD OF 'laws.FnPlaces64'. -/
def fnPlaces64UptoCard : Claim7 := { stood := { row := fnPlaces64UptoRow, standIns := [], harness := (true, "9e128c32c06740b0cb2b0cc293a180cbbcb43b9f3d07b51d4f39781f1717506a"), looks := false }, kinds := [], alts := [], laidByText := true, laidKinds := [.data], laidTests := true, laidLooks := .later }
def FnPlaces64UptoCardSaid : Prop := Claim7.holds Tryd.pinned (.plain (OpenSpec.upto fnPlaces64Spec)) fnPlaces64UptoCard

/-- THE SECOND FORM's CARD OF 'laws.FnLowest64'. -/
def fnLowest64UptoCard : Claim7 := { stood := { row := fnLowest64UptoRow, standIns := [], harness := (true, "9e128c32c06740b0cb2b0cc293a180cbbcb43b9f3d07b51d4f39781f1717506a"), looks := false }, kinds := [], alts := [], laidByText := true, laidKinds := [.data], laidTests := true, laidLooks := .later }
def FnLowest64UptoCardSaid : Prop := Claim7.holds Tryd.pinned (.plain (OpenSpec.upto fnLowest64Spec)) fnLowest64UptoCard
end Rows
end Go.Proofs.YtiglkjpabpeogaaDoor

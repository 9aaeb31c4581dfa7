/-
  DERIVED. GIVEN WITH THE SEED: THE CARDS: each row of YtfeahfdepikodaaDoorRows.lean that lists a variable, with what it lists TIED to the program's text (the seventh form; the later family's looks); each row that meets fmt, with fmt's text TOLD by the authors' own Lean function (tested against real Go, not proved from fmt's source: count such statements apart). THE CARD IS WHAT COUNTS. Prove the row's statement (the work); the ties are given (YtfeahfdepikodaaDoorTie.lean); close each card by the builder's one call (the guide's Derived/Test/ToyasCard.lean, 'card_holds'). Laid BY PROGRAM, IN A SANDBOX (cutbox-door.mjs). By AI agents, Wed Nov 11 2026. No macro, syntax, notation, axiom, sorry.
-/
import Derived.Test.YtfeahfdepikodaaDoorRows
import GoSem.ClaimSeven
namespace Go.Proofs.YtfeahfdepikodaaDoor
namespace Rows

/-- THE TIED CARD OF 'laws.FnTrailingZeros32'. -/
def fnTrailingZeros32Card : Claim7 := { stood := { row := fnTrailingZeros32Row, standIns := [], harness := (true, "66a614ab842247e415e234601efd91506cb638afc3c5d2344f4af0fdd5039092"), looks := false }, kinds := [], alts := [], laidByText := true, laidKinds := [.data], laidTests := true, laidLooks := .later }
def FnTrailingZeros32CardSaid : Prop := Claim7.holds Tryd.pinned (.plain (OpenSpec.ofChange fnTrailingZeros32Spec)) fnTrailingZeros32Card

/-- THE TIED CARD OF 'laws.FnPowers32'. -/
def fnPowers32Card : Claim7 := { stood := { row := fnPowers32Row, standIns := [], harness := (true, "66a614ab842247e415e234601efd91506cb638afc3c5d2344f4af0fdd5039092"), looks := false }, kinds := [], alts := [], laidByText := true, laidKinds := [.data], laidTests := true, laidLooks := .later }
def FnPowers32CardSaid : Prop := Claim7.holds Tryd.pinned (.plain (OpenSpec.ofChange fnPowers32Spec)) fnPowers32Card

/-- THE TIED CARD OF 'laws.FnPlaces32'. -/
def fnPlaces32Card : Claim7 := { stood := { row := fnPlaces32Row, standIns := [], harness := (true, "66a614ab842247e415e234601efd91506cb638afc3c5d2344f4af0fdd5039092"), looks := false }, kinds := [], alts := [], laidByText := true, laidKinds := [.data], laidTests := true, laidLooks := .later }
def FnPlaces32CardSaid : Prop := Claim7.holds Tryd.pinned (.plain (OpenSpec.ofChange fnPlaces32Spec)) fnPlaces32Card

/-- THE TIED CARD OF 'laws.FnLowest32'. -/
def fnLowest32Card : Claim7 := { stood := { row := fnLowest32Row, standIns := [], harness := (true, "66a614ab842247e415e234601efd91506cb638afc3c5d2344f4af0fdd5039092"), looks := false }, kinds := [], alts := [], laidByText := true, laidKinds := [.data], laidTests := true, laidLooks := .later }
def FnLowest32CardSaid : Prop := Claim7.holds Tryd.pinned (.plain (OpenSpec.ofChange fnLowest32Spec)) fnLowest32Card

/-- THE SECOND FORM's CARD OF 'laws.FnTrailingZeros32'. -/
def fnTrailingZeros32UptoCard : Claim7 := { stood := { row := fnTrailingZeros32UptoRow, standIns := [], harness := (true, "66a614ab842247e415e234601efd91506cb638afc3c5d2344f4af0fdd5039092"), looks := false }, kinds := [], alts := [], laidByText := true, laidKinds := [.data], laidTests := true, laidLooks := .later }
def FnTrailingZeros32UptoCardSaid : Prop := Claim7.holds Tryd.pinned (.plain (OpenSpec.upto fnTrailingZeros32Spec)) fnTrailingZeros32UptoCard

/-- THE SECOND FORM's CARD OF 'laws.FnPowers32'. -/
def fnPowers32UptoCard : Claim7 := { stood := { row := fnPowers32UptoRow, standIns := [], harness := (true, "66a614ab842247e415e234601efd91506cb638afc3c5d2344f4af0fdd5039092"), looks := false }, kinds := [], alts := [], laidByText := true, laidKinds := [.data], laidTests := true, laidLooks := .later }
def FnPowers32UptoCardSaid : Prop := Claim7.holds Tryd.pinned (.plain (OpenSpec.upto fnPowers32Spec)) fnPowers32UptoCard

/-- THE SECOND FORM's CARD OF 'laws.FnPlaces32'. -/
def fnPlaces32UptoCard : Claim7 := { stood := { row := fnPlaces32UptoRow, standIns := [], harness := (true, "66a614ab842247e415e234601efd91506cb638afc3c5d2344f4af0fdd5039092"), looks := false }, kinds := [], alts := [], laidByText := true, laidKinds := [.data], laidTests := true, laidLooks := .later }
def FnPlaces32UptoCardSaid : Prop := Claim7.holds Tryd.pinned (.plain (OpenSpec.upto fnPlaces32Spec)) fnPlaces32UptoCard

/-- THE SECOND FORM's CARD OF 'laws.FnLowest32'. -/
def fnLowest32UptoCard : Claim7 := { stood := { row := fnLowest32UptoRow, standIns := [], harness := (true, "66a614ab842247e415e234601efd91506cb638afc3c5d2344f4af0fdd5039092"), looks := false }, kinds := [], alts := [], laidByText := true, laidKinds := [.data], laidTests := true, laidLooks := .later }
def FnLowest32UptoCardSaid : Prop := Claim7.holds Tryd.pinned (.plain (OpenSpec.upto fnLowest32Spec)) fnLowest32UptoCard
end Rows
end Go.Proofs.YtfeahfdepikodaaDoor

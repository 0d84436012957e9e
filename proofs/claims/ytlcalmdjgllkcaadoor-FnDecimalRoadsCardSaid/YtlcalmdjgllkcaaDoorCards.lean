/-
  DERIVED. GIVEN WITH THE SEED: THE CARDS: each row of YtlcalmdjgllkcaaDoorRows.lean that lists a variable, with what it lists TIED to the program's text (the seventh form; the later family's looks); each row that meets fmt, with fmt's text TOLD by the authors' own Lean function (tested against real Go, not proved from fmt's source: count such statements apart). THE CARD IS WHAT COUNTS. Prove the row's statement (the work); the ties are given (YtlcalmdjgllkcaaDoorTie.lean); close each card by the builder's one call (the guide's Derived/Test/ToyasCard.lean, 'card_holds'). Laid BY PROGRAM, IN A SANDBOX (cutbox-door.mjs). By AI agents, Wed Nov 11 2026. No macro, syntax, notation, axiom, sorry.
-/
import Derived.Test.YtlcalmdjgllkcaaDoorRows
import GoSem.ClaimSeven
namespace Go.Proofs.YtlcalmdjgllkcaaDoor
namespace Rows

/-- THE TIED CARD OF 'laws.FnDecimalDigits'. -/
def fnDecimalDigitsCard : Claim7 := { stood := { row := fnDecimalDigitsRow, standIns := [], harness := (true, "17c722661c5014417f0d26d44bab502456eee862c87cba48a3e854b46c2f23d2"), looks := true }, kinds := [], alts := [], laidByText := true, laidKinds := [.data, .data, .data, .data, .data, .data, .sentinel, .sentinel, .sentinel], laidTests := true, laidLooks := .later }
def FnDecimalDigitsCardSaid : Prop := Claim7.holds Tryd.pinned (.plain (OpenSpec.ofChange fnDecimalDigitsSpec)) fnDecimalDigitsCard

/-- THE TIED CARD OF 'laws.FnDecimalRoads'. -/
def fnDecimalRoadsCard : Claim7 := { stood := { row := fnDecimalRoadsRow, standIns := [], harness := (true, "17c722661c5014417f0d26d44bab502456eee862c87cba48a3e854b46c2f23d2"), looks := true }, kinds := [], alts := [], laidByText := true, laidKinds := [.data, .data, .data, .data, .data, .data, .sentinel, .sentinel, .sentinel], laidTests := true, laidLooks := .later }
def FnDecimalRoadsCardSaid : Prop := Claim7.holds Tryd.pinned (.plain (OpenSpec.ofChange fnDecimalRoadsSpec)) fnDecimalRoadsCard

/-- THE SECOND FORM's CARD OF 'laws.FnDecimalDigits'. -/
def fnDecimalDigitsUptoCard : Claim7 := { stood := { row := fnDecimalDigitsUptoRow, standIns := [], harness := (true, "17c722661c5014417f0d26d44bab502456eee862c87cba48a3e854b46c2f23d2"), looks := true }, kinds := [], alts := [], laidByText := true, laidKinds := [.data, .data, .data, .data, .data, .data, .sentinel, .sentinel, .sentinel], laidTests := true, laidLooks := .later }
def FnDecimalDigitsUptoCardSaid : Prop := Claim7.holds Tryd.pinned (.plain (OpenSpec.upto fnDecimalDigitsSpec)) fnDecimalDigitsUptoCard

/-- THE SECOND FORM's CARD OF 'laws.FnDecimalRoads'. -/
def fnDecimalRoadsUptoCard : Claim7 := { stood := { row := fnDecimalRoadsUptoRow, standIns := [], harness := (true, "17c722661c5014417f0d26d44bab502456eee862c87cba48a3e854b46c2f23d2"), looks := true }, kinds := [], alts := [], laidByText := true, laidKinds := [.data, .data, .data, .data, .data, .data, .sentinel, .sentinel, .sentinel], laidTests := true, laidLooks := .later }
def FnDecimalRoadsUptoCardSaid : Prop := Claim7.holds Tryd.pinned (.plain (OpenSpec.upto fnDecimalRoadsSpec)) fnDecimalRoadsUptoCard
end Rows
end Go.Proofs.YtlcalmdjgllkcaaDoor

/-
  DERIVED. GIVEN WITH THE SEED: THE CARDS: each row of YthklhdeegmanbaaDoorRows.lean that lists a variable, with what it lists TIED to the program's text (the seventh form; the later family's looks); each row that meets fmt, with fmt's text TOLD by the authors' own Lean function (tested against real Go, not proved from fmt's source: count such statements apart). THE CARD IS WHAT COUNTS. Prove the row's statement (the work); the ties are given (YthklhdeegmanbaaDoorTie.lean); close each card by the builder's one call (the guide's Derived/Test/ToyasCard.lean, 'card_holds'). Laid BY PROGRAM, IN A SANDBOX (cutbox-door.mjs). By AI agents, Wed Nov 11 2026. No macro, syntax, notation, axiom, sorry.
-/
import Derived.Test.YthklhdeegmanbaaDoorRows
import GoSem.ClaimSeven
namespace Go.Proofs.YthklhdeegmanbaaDoor
namespace Rows

/-- THE TIED CARD OF 'laws.FnUnescapeStar'. -/
def fnUnescapeStarCard : Claim7 := { stood := { row := fnUnescapeStarRow, standIns := [], harness := (true, "86a39bd59228ec1010cc648a2c4708f93f8611163f4dee44b89efa568d5518f5"), looks := false }, kinds := [], alts := [], laidByText := true, laidKinds := [.data, .pinned], laidTests := true, laidLooks := .later }
def FnUnescapeStarCardSaid : Prop := Claim7.holds Tryd.pinned (.plain (OpenSpec.ofChange fnUnescapeStarSpec)) fnUnescapeStarCard

/-- THE TIED CARD OF 'laws.FnUnescapes'. -/
def fnUnescapesCard : Claim7 := { stood := { row := fnUnescapesRow, standIns := [], harness := (true, "86a39bd59228ec1010cc648a2c4708f93f8611163f4dee44b89efa568d5518f5"), looks := false }, kinds := [], alts := [], laidByText := true, laidKinds := [.data, .pinned], laidTests := true, laidLooks := .later }
def FnUnescapesCardSaid : Prop := Claim7.holds Tryd.pinned (.plain (OpenSpec.ofChange fnUnescapesSpec)) fnUnescapesCard

/-- THE SECOND FORM's CARD OF 'laws.FnUnescapeStar'. -/
def fnUnescapeStarUptoCard : Claim7 := { stood := { row := fnUnescapeStarUptoRow, standIns := [], harness := (true, "86a39bd59228ec1010cc648a2c4708f93f8611163f4dee44b89efa568d5518f5"), looks := false }, kinds := [], alts := [], laidByText := true, laidKinds := [.data, .pinned], laidTests := true, laidLooks := .later }
def FnUnescapeStarUptoCardSaid : Prop := Claim7.holds Tryd.pinned (.plain (OpenSpec.upto fnUnescapeStarSpec)) fnUnescapeStarUptoCard

/-- THE SECOND FORM's CARD OF 'laws.FnUnescapes'. -/
def fnUnescapesUptoCard : Claim7 := { stood := { row := fnUnescapesUptoRow, standIns := [], harness := (true, "86a39bd59228ec1010cc648a2c4708f93f8611163f4dee44b89efa568d5518f5"), looks := false }, kinds := [], alts := [], laidByText := true, laidKinds := [.data, .pinned], laidTests := true, laidLooks := .later }
def FnUnescapesUptoCardSaid : Prop := Claim7.holds Tryd.pinned (.plain (OpenSpec.upto fnUnescapesSpec)) fnUnescapesUptoCard
end Rows
end Go.Proofs.YthklhdeegmanbaaDoor

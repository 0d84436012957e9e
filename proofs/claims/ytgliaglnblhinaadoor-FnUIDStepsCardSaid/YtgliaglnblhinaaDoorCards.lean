/-
  DERIVED. GIVEN WITH THE SEED: THE CARDS: each row of YtgliaglnblhinaaDoorRows.lean that lists a variable, with what it lists TIED to the program's text (the seventh form; the later family's looks); each row that meets fmt, with fmt's text TOLD by the authors' own Lean function (tested against real Go, not proved from fmt's source: count such statements apart). THE CARD IS WHAT COUNTS. Prove the row's statement (the work); the ties are given (YtgliaglnblhinaaDoorTie.lean); close each card by the builder's one call (the guide's Derived/Test/ToyasCard.lean, 'card_holds'). Laid BY PROGRAM, IN A SANDBOX (cutbox-door.mjs). By AI agents, Wed Nov 11 2026. No macro, syntax, notation, axiom, sorry.
-/
import Derived.Test.YtgliaglnblhinaaDoorRows
import GoSem.ClaimSeven
namespace Go.Proofs.YtgliaglnblhinaaDoor
namespace Rows

/-- THE TIED CARD OF 'laws.FnUIDSteps'. -/
def fnUIDStepsCard : Claim7 := { stood := { row := fnUIDStepsRow, standIns := [], harness := (true, "b7b2e4baf9ca9fd1499d162b2fa37a622377aa7f4a44ec6353ce35d9e50c0b66"), looks := false }, kinds := [], alts := [], laidByText := true, laidKinds := [.data], laidTests := true, laidLooks := .later }
def FnUIDStepsCardSaid : Prop := Claim7.holds Tryd.pinned (.plain (OpenSpec.ofChange fnUIDStepsSpec)) fnUIDStepsCard

/-- THE TIED CARD OF 'laws.FnDurationSums'. -/
def fnDurationSumsCard : Claim7 := { stood := { row := fnDurationSumsRow, standIns := [], harness := (true, "b7b2e4baf9ca9fd1499d162b2fa37a622377aa7f4a44ec6353ce35d9e50c0b66"), looks := false }, kinds := [], alts := [], laidByText := true, laidKinds := [.sentinel], laidTests := true, laidLooks := .later }
def FnDurationSumsCardSaid : Prop := Claim7.holds Tryd.pinned (.plain (OpenSpec.ofChange fnDurationSumsSpec)) fnDurationSumsCard

/-- THE TIED CARD OF 'laws.FnDurationUnit'. -/
def fnDurationUnitCard : Claim7 := { stood := { row := fnDurationUnitRow, standIns := [], harness := (true, "b7b2e4baf9ca9fd1499d162b2fa37a622377aa7f4a44ec6353ce35d9e50c0b66"), looks := false }, kinds := [], alts := [], laidByText := true, laidKinds := [.sentinel], laidTests := true, laidLooks := .later }
def FnDurationUnitCardSaid : Prop := Claim7.holds Tryd.pinned (.plain (OpenSpec.ofChange fnDurationUnitSpec)) fnDurationUnitCard

/-- THE SECOND FORM's CARD OF 'laws.FnUIDSteps'. -/
def fnUIDStepsUptoCard : Claim7 := { stood := { row := fnUIDStepsUptoRow, standIns := [], harness := (true, "b7b2e4baf9ca9fd1499d162b2fa37a622377aa7f4a44ec6353ce35d9e50c0b66"), looks := false }, kinds := [], alts := [], laidByText := true, laidKinds := [.data], laidTests := true, laidLooks := .later }
def FnUIDStepsUptoCardSaid : Prop := Claim7.holds Tryd.pinned (.plain (OpenSpec.upto fnUIDStepsSpec)) fnUIDStepsUptoCard

/-- THE SECOND FORM's CARD OF 'laws.FnDurationSums'. -/
def fnDurationSumsUptoCard : Claim7 := { stood := { row := fnDurationSumsUptoRow, standIns := [], harness := (true, "b7b2e4baf9ca9fd1499d162b2fa37a622377aa7f4a44ec6353ce35d9e50c0b66"), looks := false }, kinds := [], alts := [], laidByText := true, laidKinds := [.sentinel], laidTests := true, laidLooks := .later }
def FnDurationSumsUptoCardSaid : Prop := Claim7.holds Tryd.pinned (.plain (OpenSpec.upto fnDurationSumsSpec)) fnDurationSumsUptoCard

/-- THE SECOND FORM's CARD OF 'laws.FnDurationUnit'. -/
def fnDurationUnitUptoCard : Claim7 := { stood := { row := fnDurationUnitUptoRow, standIns := [], harness := (true, "b7b2e4baf9ca9fd1499d162b2fa37a622377aa7f4a44ec6353ce35d9e50c0b66"), looks := false }, kinds := [], alts := [], laidByText := true, laidKinds := [.sentinel], laidTests := true, laidLooks := .later }
def FnDurationUnitUptoCardSaid : Prop := Claim7.holds Tryd.pinned (.plain (OpenSpec.upto fnDurationUnitSpec)) fnDurationUnitUptoCard
end Rows
end Go.Proofs.YtgliaglnblhinaaDoor

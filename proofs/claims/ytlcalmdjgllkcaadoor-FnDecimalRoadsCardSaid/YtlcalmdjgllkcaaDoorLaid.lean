/-
  What the laid variables hold, as the law on the roads asks for it.
  Conditions: none.
-/
import Derived.Test.YtlcalmdjgllkcaaDoorLay
import Derived.Test.YtlcalmdjgllkcaaDoorFour
namespace Go.Proofs.YtlcalmdjgllkcaaDoor.Dec
open Go Go.Shelf Go.Lib Go.ChangeShapes Go.WideShapes Go.ChangeAt Go.RowKit

theorem roadW_met {W : World} {ld : List (String × DataW Unit)} (hl : ld = Rows.fnDecimalRoadsRow.laid) (hL : laidMetH Tryd.prog ld W) : RoadW W := by
  have hD : DecW W := decW_met (hl.trans rfl) hL
  subst hl
  rw [MakeChecks.laidMetH_plain _ _ _ (by kernel_rfl)] at hL
  have R3 := Lib.laidMet.reads hL (.tail _ (.tail _ (.tail _ (.head _))))
  refine ⟨hD, ?_, ?_, ?_, ?_, ?_⟩
  · exact float_at (t := 56) (n := 32) (by kernel_rfl) (by kernel_rfl) (by kernel_rfl) R3 1 (by omega) rfl
  · exact float_at (t := 56) (n := 32) (by kernel_rfl) (by kernel_rfl) (by kernel_rfl) R3 2 (by omega) rfl
  · exact float_at (t := 56) (n := 32) (by kernel_rfl) (by kernel_rfl) (by kernel_rfl) R3 3 (by omega) rfl
  · exact float_at (t := 56) (n := 32) (by kernel_rfl) (by kernel_rfl) (by kernel_rfl) R3 4 (by omega) rfl
  · exact tabIs_of_head (rest := _) (g := 7) (t := 76) (e := 22) (n := 20) (by kernel_rfl) (by kernel_rfl) (by kernel_rfl) (by kernel_rfl) (by kernel_rfl) (by kernel_rfl) hL.tail.tail

end Go.Proofs.YtlcalmdjgllkcaaDoor.Dec

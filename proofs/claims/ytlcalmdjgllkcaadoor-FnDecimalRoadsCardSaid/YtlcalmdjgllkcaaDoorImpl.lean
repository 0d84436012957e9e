/-
  impl.ParseDecimal at a numeral with four digits behind the point, and the law on digits, walked.
  Conditions: sizes.
-/
import Derived.Test.YtlcalmdjgllkcaaDoorParse
namespace Go.Proofs.YtlcalmdjgllkcaaDoor.Dec
open Go Go.ChangeShapes Go.WideShapes Go.ChangeAt Go.RowKit

theorem ten_any (v : Int) (w : World) : Calls Tryd.prog 10 #[.agg #[.int .i64 v]] w fun e w' => e = .returned (.int .i64 v) ∧ w' = w.alloc (.cells #[.int .i64 v] 33) := by
  go_enter Tryd.func10, Tryd.ntmps10
  go_wp2
  exact ⟨rfl, _, by simp [results, Tryd.results10, go_sem] <;> rfl, rfl, rfl⟩

def IDPost (neg : Bool) (m p : Nat) (W : World) (e : Ending) (W' : World) : Prop :=
  Since W W' ∧ ((Bad neg m p ∧ e = .returned (.tuple #[.int .i64 0, .bool false])) ∨ (¬ Bad neg m p ∧ e = .returned (.tuple #[.int .i64 (sv neg m * 10000 + sv neg p), .bool true])))
theorem pd_any (neg : Bool) (D1 D2 : Bs) (hd1 : Digs D1) (hne : D1 ≠ []) (l1 : D1.length ≤ 30) (hd2 : Digs D2) (l2 : D2.length = 4) (hp : num D2 < 10000) (W : World) (hW : DecW W) :
    Calls Tryd.prog 9 #[.string (bs ((sg neg ++ D1) ++ 46 :: D2))] W (PPost neg (num D1) (num D2) W) := by
  cases neg
  · exact pd_false D1 D2 hd1 hne l1 hd2 l2 hp W hW
  · exact pd_true D1 D2 hd1 hne l1 hd2 l2 hp W hW

set_option maxHeartbeats 1000000 in
theorem id_any (neg : Bool) (D1 D2 : Bs) (hd1 : Digs D1) (hne : D1 ≠ []) (l1 : D1.length ≤ 30) (hd2 : Digs D2) (l2 : D2.length = 4) (hp : num D2 < 10000) (W : World) (hW : DecW W) :
    Calls Tryd.prog 6 #[.string (bs ((sg neg ++ D1) ++ 46 :: D2))] W (IDPost neg (num D1) (num D2) W) := by
  have HP := Go.Lib.hid (pd_any neg D1 D2 hd1 hne l1 hd2 l2 hp W hW)
  generalize bs ((sg neg ++ D1) ++ 46 :: D2) = s at *
  generalize num D1 = M at *
  generalize num D2 = p at *
  clear hd1 hne l1 hd2 l2 hp hW
  go_enter Tryd.func6, Tryd.ntmps6
  go_wp2_with fail
  refine HP.out.mono ?_
  rintro e w1 ⟨hs1, h1⟩
  rcases h1 with ⟨hbad, ty, v, rfl⟩ | ⟨hok, rfl⟩
  · have HB := Go.Lib.hid hbad
    clear hbad HP
    have hc : (w1.alloc (.cells #[.int .i64 0] 33)).cell? ⟨w1.heap.size, 0, none⟩ = some (.int .i64 0) := by rw [World.cell?_alloc_at _ _ _ _ rfl]; rfl
    go_wp2
    go_region_with (go_at_call 10; refine (ten_any _ _).mono ?_; rintro e w2 ⟨rfl, rfl⟩)
    all_goals go_wp2
    all_goals exact ⟨rfl, _, by simp [results, Tryd.results6, go_sem] <;> rfl, by first | exact ((hs1.alloc _).drew).alloc _ | exact ((hs1.alloc _).alloc _).drew, .inl ⟨HB.out, rfl⟩⟩
  · have HB := Go.Lib.hid hok
    clear hok HP
    generalize hz : sv neg M * 10000 + sv neg p = z at *
    have HZ := Go.Lib.hid hz
    clear hz
    have hc : (w1.alloc (.cells #[.int .i64 z] 33)).cell? ⟨w1.heap.size, 0, none⟩ = some (.int .i64 z) := by rw [World.cell?_alloc_at _ _ _ _ rfl]; rfl
    go_wp2
    go_region_with (go_at_call 10; refine (ten_any _ _).mono ?_; rintro e w2 ⟨rfl, rfl⟩)
    all_goals go_wp2
    all_goals exact ⟨rfl, _, by simp [results, Tryd.results6, go_sem] <;> rfl, by first | exact ((hs1.alloc _).drew).alloc _ | exact ((hs1.alloc _).alloc _).drew, .inr ⟨HB.out, by rw [HZ.out]⟩⟩

def TruePost (W : World) (e : Ending) (W' : World) : Prop := e = .returned (.bool true) ∧ Since W W'

end Go.Proofs.YtlcalmdjgllkcaaDoor.Dec

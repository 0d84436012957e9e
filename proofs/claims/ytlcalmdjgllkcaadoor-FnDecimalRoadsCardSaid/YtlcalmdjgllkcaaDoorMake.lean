/-
  types.NewDecimal and impl.NewDecimal at the exponents 0 to -4, walked.
  Conditions: sizes.
-/
import Derived.Test.YtlcalmdjgllkcaaDoorTrim
import Derived.Deep.RegionWith
namespace Go.Proofs.YtlcalmdjgllkcaaDoor.Dec
open Go Go.ChangeShapes Go.WideShapes Go.ChangeAt Go.RowKit

theorem tdiv_le (i : Int) (T : Nat) (hT : 1 ≤ T) : (0 ≤ i → 0 ≤ i.tdiv T ∧ i.tdiv T ≤ i) ∧ (i ≤ 0 → i ≤ i.tdiv T ∧ i.tdiv T ≤ 0) := by
  have key : ∀ j : Int, 0 ≤ j → 0 ≤ j.tdiv T ∧ j.tdiv T ≤ j := fun j hj => by
    rw [Int.tdiv_eq_ediv_of_nonneg hj]
    exact ⟨Int.ediv_nonneg hj (by omega), Int.ediv_le_self _ hj⟩
  refine ⟨key i, fun h => ?_⟩
  have h1 := key (-i) (by omega)
  rw [Int.neg_tdiv] at h1
  omega
theorem tmod_lt (i : Int) (T : Nat) (hT : 1 ≤ T) : (i.tmod T).natAbs < T := by
  rw [Int.natAbs_tmod]
  exact Nat.mod_lt _ hT

theorem fz_since {W w5 : World} {cs : Array Value} {ty : TypeId} (hb5 : Since (W.alloc (.cells cs ty)) w5) : w5.frozen? ⟨W.heap.size, 0, none⟩ = false := by
  have : w5.heap[W.heap.size]? = some (.cells cs ty (0, 0)) := (hb5.block W.heap.size (by simp)).trans (MapKept.heap_alloc W _).1
  simp [World.frozen?, this]
def fbI (y : Int) : Nat := fb y.toNat
theorem pow10_int (y : Int) (hy : 0 ≤ y ∧ y ≤ 4) (w : World) (hW : RoadW w) : Calls Tryd.prog 17 #[.int .i64 y] w fun e w' => e = .returned (.float .f64 (fbI y)) ∧ w' = w.drew := by
  have := pow10_drew y.toNat (by omega) w hW
  rw [show ((y.toNat : Nat) : Int) = y by omega] at this
  exact this

set_option maxHeartbeats 2000000 in
theorem nd_any (i : Int) (hi : -9223372036854775808 ≤ i ∧ i ≤ 9223372036854775807) (k : Nat) (hk : k ≤ 4) (z : Int) (hz : z = -(k : Int)) (W : World) (hW : RoadW W) :
    Calls Tryd.prog 11 #[.int .i64 i, .int .i64 z] W (NDPost (i.tdiv ((10 ^ k : Nat) : Int)) (i.tmod ((10 ^ k : Nat) : Int) * ((10 ^ (4 - k) : Nat) : Int)) W) := by
  have hT : 1 ≤ 10 ^ k := Nat.pow_pos (by decide)
  have hTT : 10 ^ k * 10 ^ (4 - k) = 10000 := by rw [← Nat.pow_add, show k + (4 - k) = 4 by omega]
  have hT' : 1 ≤ 10 ^ (4 - k) := Nat.pow_pos (by decide)
  have b1 := tdiv_le i (10 ^ k) hT
  have b2 := tmod_lt i (10 ^ k) hT
  have fc1 := fconv64 k hk
  have fc2 := fconv64 (4 - k) (by omega)
  rw [show fb k = fbI (k : Int) from rfl] at fc1
  rw [show fb (4 - k) = fbI (4 + -(k : Int)) from by unfold fbI; congr 1; omega] at fc2
  have HW := Go.Lib.hid hW
  have hTm : 10 ^ k ≤ 10000 := by rw [← hTT]; exact Nat.le_mul_of_pos_right _ hT'
  have hTm' : 10 ^ (4 - k) ≤ 10000 := by rw [← hTT]; exact Nat.le_mul_of_pos_left _ hT
  have b3 : (i.tmod ((10 ^ k : Nat) : Int) * ((10 ^ (4 - k) : Nat) : Int)).natAbs < 10000 := by
    rw [Int.natAbs_mul, ← hTT, Int.natAbs_natCast]
    exact Nat.mul_lt_mul_of_pos_right b2 hT'
  generalize 10 ^ k = T at *
  generalize 10 ^ (4 - k) = T' at *
  clear hW hTT
  have hT0 : ¬ ((T : Int) = 0) := by omega
  have hT1 : ¬ ((T : Int) = -1) := by omega
  generalize hq : i.tdiv (T : Int) = q at *
  generalize hr : i.tmod (T : Int) = r at *
  generalize hx : r * (T' : Int) = x at *
  have b4 : r.natAbs < 10000 := by omega
  have HND := Go.Lib.hid (fun w hw => newDec_any q x (by omega) w hw)
  have c1 : -9223372036854775808 ≤ q := by omega
  have c2 : q ≤ 9223372036854775807 := by omega
  have c3 : -10000 < r := by omega
  have c4 : r < 10000 := by omega
  have c5 : -10000 < x := by omega
  have c6 : x < 10000 := by omega
  have w1 : IntKind.wrap .i64 q = q := IntWalk.i64_in _ (by omega)
  have w2 : IntKind.wrap .i64 r = r := IntWalk.i64_in _ (by omega)
  have w3 : IntKind.wrap .i64 x = x := IntWalk.i64_in _ (by omega)
  have w4 : IntKind.wrap .i16 x = x := IntWalk.i16_in _ (by omega)
  have w5 : IntKind.wrap .i64 (k : Int) = k := IntWalk.i64_in _ (by omega)
  have w6 : IntKind.wrap .i64 (4 + -(k : Int)) = 4 + -(k : Int) := IntWalk.i64_in _ (by omega)
  clear b1 b2 b3 b4
  subst hz
  go_enter Tryd.func11, Tryd.ntmps11
  go_wp2_with fail
  refine (pow10_int _ (by omega) _ (HW.out.since (by first | exact Since.refl _ | exact (Since.refl _).alloc _))).mono ?_
  rintro e w1' ⟨rfl, rfl⟩
  go_wp2
  have HW1 := Go.Lib.hid (show ∀ w', Since W w' → RoadW w' from fun w' h => HW.out.since h)
  go_region_with (go_at_call 17; refine (pow10_int _ (by omega) _ ?_).mono ?_; exact HW1.out _ (by first | exact ((Since.refl _).alloc _).drew.drew.drew | exact ((Since.refl _).alloc _).drew.drew); rintro e w2 ⟨rfl, rfl⟩)
  all_goals go_wp2_with fail
  all_goals refine (HND.out _ (HW1.out _ (by first | exact ((Since.refl _).alloc _).drew.drew.drew.drew | exact ((Since.refl _).alloc _).drew.drew.drew | exact ((Since.refl _).alloc _).drew.drew)).dec).mono ?_
  all_goals rintro e w5 ⟨hb5', h5⟩
  all_goals have hb5 : Since (W.alloc (.cells #[.int .i64 0] 33)) w5 := by first | exact ((Since.refl _).drew.drew.drew.drew).trans hb5' | exact ((Since.refl _).drew.drew.drew).trans hb5' | exact ((Since.refl _).drew.drew).trans hb5'
  all_goals have hsW : Since W w5 := ((Since.refl W).alloc _).trans hb5
  all_goals have hcell : w5.cell? ⟨W.heap.size, 0, none⟩ = some (.int .i64 0) := cell_since hb5 (by rw [World.cell?_alloc_at _ _ _ _ rfl]; rfl)
  all_goals have hfz : w5.frozen? ⟨W.heap.size, 0, none⟩ = false := fz_since hb5
  all_goals clear HND HW hb5'
  all_goals rcases h5 with ⟨hbad, ty, v, rfl⟩ | ⟨hok, rfl⟩
  all_goals have HB := Go.Lib.hid (by first | exact hbad | exact hok)
  all_goals first | clear hbad | clear hok
  all_goals go_wp2
  all_goals first
    | exact ⟨rfl, _, by simp [results, Tryd.results11, go_sem, hcell] <;> rfl, hsW.setCell (p := ⟨W.heap.size, 0, none⟩) (Nat.le_refl _) _, .inl ⟨HB.out, ty, v, rfl⟩⟩
    | exact ⟨rfl, _, by simp [results, Tryd.results11, go_sem, hcell] <;> rfl, hsW.setCell (p := ⟨W.heap.size, 0, none⟩) (Nat.le_refl _) _, .inr ⟨HB.out, rfl⟩⟩
end Go.Proofs.YtlcalmdjgllkcaaDoor.Dec

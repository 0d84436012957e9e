/-
  impl's NewDecimal, ParseDecimal and DecimalText, and the law on the roads of decimals, walked.
  Conditions: sizes.
-/
import Derived.Test.YtlcalmdjgllkcaaDoorTneg
namespace Go.Proofs.YtlcalmdjgllkcaaDoor.Dec
open Go Go.ChangeShapes Go.WideShapes Go.ChangeAt Go.RowKit

theorem pt_any (neg : Bool) (t : Nat) (ht3 : t ≤ 3) (D1 D2 : Bs) (hd1 : Digs D1) (hne : D1 ≠ []) (l1 : D1.length ≤ 30) (hd2 : Digs D2) (l2 : D2.length + t = 4) (hp : num D2 * 10 ^ t < 10000) (W : World) (hW : RoadW W) :
    Calls Tryd.prog 9 #[.string (bs ((sg neg ++ D1) ++ 46 :: D2))] W (PPost neg (num D1) (num D2 * 10 ^ t) W) := by
  cases neg
  · exact pt_false t ht3 D1 D2 hd1 hne l1 hd2 l2 hp W hW
  · exact pt_true t ht3 D1 D2 hd1 hne l1 hd2 l2 hp W hW

set_option maxHeartbeats 1000000 in
theorem idt_any (neg : Bool) (s : ByteArray) (M p : Nat) (W : World) (hP : Calls Tryd.prog 9 #[.string s] W (PPost neg M p W)) :
    Calls Tryd.prog 6 #[.string s] W (IDPost neg M p W) := by
  have HP := Go.Lib.hid hP
  clear hP
  go_enter Tryd.func6, Tryd.ntmps6
  go_wp2_with fail
  refine HP.out.mono ?_
  rintro e w1 ⟨hs1, h1⟩
  rcases h1 with ⟨hbad, ty, v, rfl⟩ | ⟨hok, rfl⟩
  · have HB := Go.Lib.hid hbad
    clear hbad HP
    have hc : (w1.alloc (.cells #[.int .i64 0] 33)).cell? ⟨w1.heap.size, 0, none⟩ = some (.int .i64 0) := by rw [World.cell?_alloc_at _ _ _ _ rfl]; rfl
    go_wp2
    go_region_with (go_at_call 10; refine (ten_any _ _).mono ?_; rintro e w2 ⟨rfl, rfl⟩)
    all_goals go_wp2
    all_goals exact ⟨rfl, _, by simp [results, Tryd.results6, go_sem] <;> rfl, by first | exact ((hs1.alloc _).drew).alloc _ | exact ((hs1.alloc _).alloc _).drew, .inl ⟨HB.out, rfl⟩⟩
  · have HB := Go.Lib.hid hok
    clear hok HP
    generalize hz : sv neg M * 10000 + sv neg p = z at *
    have HZ := Go.Lib.hid hz
    clear hz
    have hc : (w1.alloc (.cells #[.int .i64 z] 33)).cell? ⟨w1.heap.size, 0, none⟩ = some (.int .i64 z) := by rw [World.cell?_alloc_at _ _ _ _ rfl]; rfl
    go_wp2
    go_region_with (go_at_call 10; refine (ten_any _ _).mono ?_; rintro e w2 ⟨rfl, rfl⟩)
    all_goals go_wp2
    all_goals exact ⟨rfl, _, by simp [results, Tryd.results6, go_sem] <;> rfl, by first | exact ((hs1.alloc _).drew).alloc _ | exact ((hs1.alloc _).alloc _).drew, .inr ⟨HB.out, by rw [HZ.out]⟩⟩

def NBad (i t : Int) : Prop := i > 922337203685477 ∨ (i = 922337203685477 ∧ t > 5807) ∨ i < -922337203685477 ∨ (i = -922337203685477 ∧ t < -5808)
def INPost (q x : Int) (W : World) (e : Ending) (W' : World) : Prop :=
  Since W W' ∧ ((NBad q x ∧ e = .returned (.tuple #[.int .i64 0, .bool false])) ∨ (¬ NBad q x ∧ e = .returned (.tuple #[.int .i64 (q * 10000 + x), .bool true])))

set_option maxHeartbeats 1000000 in
theorem in_any (i z q x : Int) (W : World) (hP : Calls Tryd.prog 11 #[.int .i64 i, .int .i64 z] W (NDPost q x W)) :
    Calls Tryd.prog 7 #[.int .i64 i, .int .i64 z] W (INPost q x W) := by
  have HP := Go.Lib.hid hP
  clear hP
  go_enter Tryd.func7, Tryd.ntmps7
  go_wp2_with fail
  refine HP.out.mono ?_
  rintro e w1 ⟨hs1, h1⟩
  rcases h1 with ⟨hbad, ty, v, rfl⟩ | ⟨hok, rfl⟩
  · have HB := Go.Lib.hid (show NBad q x from hbad)
    clear hbad HP
    have hc : (w1.alloc (.cells #[.int .i64 0] 33)).cell? ⟨w1.heap.size, 0, none⟩ = some (.int .i64 0) := by rw [World.cell?_alloc_at _ _ _ _ rfl]; rfl
    go_wp2
    go_region_with (go_at_call 10; refine (ten_any _ _).mono ?_; rintro e w2 ⟨rfl, rfl⟩)
    all_goals go_wp2
    all_goals exact ⟨rfl, _, by simp [results, Tryd.results7, go_sem] <;> rfl, by first | exact ((hs1.alloc _).drew).alloc _ | exact ((hs1.alloc _).alloc _).drew, .inl ⟨HB.out, rfl⟩⟩
  · have HB := Go.Lib.hid (show ¬ NBad q x from hok)
    clear hok HP
    generalize hz : q * 10000 + x = z at *
    have HZ := Go.Lib.hid hz
    clear hz
    have hc : (w1.alloc (.cells #[.int .i64 z] 33)).cell? ⟨w1.heap.size, 0, none⟩ = some (.int .i64 z) := by rw [World.cell?_alloc_at _ _ _ _ rfl]; rfl
    go_wp2
    go_region_with (go_at_call 10; refine (ten_any _ _).mono ?_; rintro e w2 ⟨rfl, rfl⟩)
    all_goals go_wp2
    all_goals exact ⟨rfl, _, by simp [results, Tryd.results7, go_sem] <;> rfl, by first | exact ((hs1.alloc _).drew).alloc _ | exact ((hs1.alloc _).alloc _).drew, .inr ⟨HB.out, by rw [HZ.out]⟩⟩

theorem zz_any (v : Int) (w : World) : Calls Tryd.prog 12 #[.int .i64 v] w fun e w' => e = .returned (.agg #[.int .i64 v]) ∧ Since w w' := by
  go_enter Tryd.func12, Tryd.ntmps12
  go_wp2
  exact ⟨rfl, _, by simp [results, Tryd.results12, go_sem] <;> rfl, rfl, by first | exact Since.refl w | exact (Since.refl w).alloc _⟩

/-- The text of a decimal: which one, by its sign and its two numbers. -/
def TxPost (n : Int) (W : World) (e : Ending) (W' : World) : Prop :=
  ∃ (neg : Bool) (D1 D2 : Bs) (t : Nat), e = .returned (.string (bs ((sg neg ++ D1) ++ 46 :: D2))) ∧ Digs D1 ∧ D1 ≠ [] ∧ D1.length ≤ 20 ∧ Digs D2 ∧ t ≤ 3 ∧ D2.length + t = 4 ∧
    num D2 * 10 ^ t < 10000 ∧ ¬ Bad neg (num D1) (num D2 * 10 ^ t) ∧ sv neg (num D1) * 10000 + sv neg (num D2 * 10 ^ t) = n ∧ Since W W'
theorem str_any (n : Int) (hn : -9223372036854775808 ≤ n ∧ n ≤ 9223372036854775807) (W : World) (hW : RoadW W) : Calls Tryd.prog 13 #[.agg #[.int .i64 n]] W (TxPost n W) := by
  by_cases h0 : 0 ≤ n
  · obtain ⟨u, rfl⟩ : ∃ u : Nat, n = (u : Int) := ⟨n.toNat, by omega⟩
    refine (str_pos u (by omega) W hW).mono ?_
    rintro e w' ⟨D1, D2, t, rfl, h1, h2, h3, h4, h5, h6, h7, h8, h9⟩
    refine ⟨false, D1, D2, t, rfl, h1, h2, h3, h4, h5, h6, by omega, ?_, ?_, h9⟩
    · rw [h7, h8]; unfold Bad; omega
    · rw [h7, h8]; unfold sv; simp; omega
  · obtain ⟨u, rfl⟩ : ∃ u : Nat, n = -(u : Int) := ⟨n.natAbs, by omega⟩
    refine (str_neg u (by omega) (by omega) _ rfl W hW).mono ?_
    rintro e w' ⟨D1, D2, t, rfl, h1, h2, h3, h4, h5, h6, h7, h8, h9⟩
    refine ⟨true, D1, D2, t, rfl, h1, h2, h3, h4, h5, h6, by omega, ?_, ?_, h9⟩
    · rw [h7, h8]; unfold Bad; simp; omega
    · rw [h7, h8]; unfold sv; simp; omega
set_option maxHeartbeats 1000000 in
theorem text_any (n : Int) (hn : -9223372036854775808 ≤ n ∧ n ≤ 9223372036854775807) (W : World) (hW : RoadW W) : Calls Tryd.prog 8 #[.int .i64 n] W (TxPost n W) := by
  have HS := Go.Lib.hid (fun w hw => str_any n hn w hw)
  have HW := Go.Lib.hid hW
  clear hW
  go_enter Tryd.func8, Tryd.ntmps8
  go_wp2_with fail
  refine (zz_any n _).mono ?_
  rintro e w1 ⟨rfl, h1⟩
  go_wp2_with fail
  refine (HS.out _ (HW.out.since h1)).mono ?_
  rintro e w2 ⟨neg, D1, D2, t, rfl, g1, g2, g3, g4, g5, g6, g7, g8, g9, h9⟩
  have HP := Go.Lib.hid (show TxPost n W (.returned (.string (bs ((sg neg ++ D1) ++ 46 :: D2)))) w2 from ⟨neg, D1, D2, t, rfl, g1, g2, g3, g4, g5, g6, g7, g8, g9, h1.trans h9⟩)
  clear g1 g2 g3 g4 g5 g6 g7 g8 g9 h9
  generalize bs ((sg neg ++ D1) ++ 46 :: D2) = s at *
  go_wp2
  exact ⟨rfl, _, by simp [results, Tryd.results8, go_sem] <;> rfl, HP.out⟩

theorem parse_any (n : Int) (s : ByteArray) (W0 W1 : World) (h : TxPost n W0 (.returned (.string s)) W1) (W : World) (hW : RoadW W) :
    Calls Tryd.prog 6 #[.string s] W fun e w' => e = .returned (.tuple #[.int .i64 n, .bool true]) ∧ Since W w' := by
  obtain ⟨neg, D1, D2, t, he, g1, g2, g3, g4, g5, g6, g7, g8, g9, _⟩ := h
  obtain rfl : s = bs ((sg neg ++ D1) ++ 46 :: D2) := by simpa using he
  refine (idt_any neg _ _ _ W (pt_any neg t g5 D1 D2 g1 g2 (by omega) g4 g6 g7 W hW)).mono ?_
  rintro e w' ⟨hs, h⟩
  rcases h with ⟨hb, _⟩ | ⟨_, rfl⟩
  · exact absurd hb g8
  · rw [g9]; exact ⟨rfl, hs⟩

theorem ten_div (i : Int) (T : Nat) (hT : 1 ≤ T) : (10 * i).tdiv ((T * 10 : Nat) : Int) = i.tdiv T ∧ (10 * i).tmod ((T * 10 : Nat) : Int) = 10 * i.tmod T := by
  have e1 : ((T * 10 : Nat) : Int) = 10 * (T : Int) := by omega
  have h1 : (10 * i).tdiv (10 * (T : Int)) = i.tdiv T := Int.mul_tdiv_mul_of_pos i T (by decide)
  refine ⟨by rw [e1, h1], ?_⟩
  have a1 := Int.mul_tdiv_add_tmod (10 * i) (10 * (T : Int))
  have a2 := Int.mul_tdiv_add_tmod i (T : Int)
  rw [h1, Int.mul_assoc] at a1
  rw [e1]
  omega
theorem four_fits (i : Int) (hi : -9223372036854775808 ≤ i ∧ i ≤ 9223372036854775807) : ¬ NBad (i.tdiv ((10 ^ 4 : Nat) : Int)) (i.tmod ((10 ^ 4 : Nat) : Int) * ((10 ^ (4 - 4) : Nat) : Int)) := by
  have e4 : ((10 ^ 4 : Nat) : Int) = 10000 := rfl
  have e5 : ((10 ^ (4 - 4) : Nat) : Int) = 1 := rfl
  rw [e4, e5, Int.mul_one]
  unfold NBad
  by_cases h0 : 0 ≤ i
  · rw [Int.tdiv_eq_ediv_of_nonneg h0, Int.tmod_eq_emod_of_nonneg h0]
    omega
  · obtain ⟨j, rfl⟩ : ∃ j : Int, i = -j := ⟨-i, by omega⟩
    rw [Int.neg_tdiv, Int.neg_tmod, Int.tdiv_eq_ediv_of_nonneg (by omega), Int.tmod_eq_emod_of_nonneg (by omega)]
    omega
theorem nd_again (i : Int) (hi : -922337203685477580 ≤ i ∧ i ≤ 922337203685477580) (E : Nat) (hE : E < 4) (y z : Int) (hy : y = 10 * i) (hz : z = -(E : Int) - 1) (W : World) (hW : RoadW W) :
    Calls Tryd.prog 11 #[.int .i64 y, .int .i64 z] W (NDPost (i.tdiv ((10 ^ E : Nat) : Int)) (i.tmod ((10 ^ E : Nat) : Int) * ((10 ^ (4 - E) : Nat) : Int)) W) := by
  subst hy
  have h := nd_any (10 * i) (by omega) (E + 1) (by omega) z (by omega) W hW
  have hT : 1 ≤ 10 ^ E := Nat.pow_pos (by decide)
  obtain ⟨e1, e2⟩ := ten_div i (10 ^ E) hT
  rw [Nat.pow_succ, e1, e2] at h
  rw [show 4 - E = (4 - (E + 1)) + 1 by omega, Nat.pow_succ 10 (4 - (E + 1))]
  rw [show (10 * i.tmod ((10 ^ E : Nat) : Int)) * ((10 ^ (4 - (E + 1)) : Nat) : Int) = i.tmod ((10 ^ E : Nat) : Int) * ((10 ^ (4 - (E + 1)) * 10 : Nat) : Int) from by
    rw [Int.natCast_mul, Int.mul_comm 10, Int.mul_assoc, Int.mul_comm 10]; rfl] at h
  exact h
theorem n_range (i : Int) (E : Nat) (hE : E ≤ 4) (h : ¬ NBad (i.tdiv ((10 ^ E : Nat) : Int)) (i.tmod ((10 ^ E : Nat) : Int) * ((10 ^ (4 - E) : Nat) : Int))) :
    -9223372036854775808 ≤ i.tdiv ((10 ^ E : Nat) : Int) * 10000 + i.tmod ((10 ^ E : Nat) : Int) * ((10 ^ (4 - E) : Nat) : Int) ∧ i.tdiv ((10 ^ E : Nat) : Int) * 10000 + i.tmod ((10 ^ E : Nat) : Int) * ((10 ^ (4 - E) : Nat) : Int) ≤ 9223372036854775807 := by
  have hT : 1 ≤ 10 ^ E := Nat.pow_pos (by decide)
  have hTT : 10 ^ E * 10 ^ (4 - E) = 10000 := by rw [← Nat.pow_add, show E + (4 - E) = 4 by omega]
  have hT' : 1 ≤ 10 ^ (4 - E) := Nat.pow_pos (by decide)
  have b2 := tmod_lt i (10 ^ E) hT
  have b3 : (i.tmod ((10 ^ E : Nat) : Int) * ((10 ^ (4 - E) : Nat) : Int)).natAbs < 10000 := by
    rw [Int.natAbs_mul, ← hTT, Int.natAbs_natCast]
    exact Nat.mul_lt_mul_of_pos_right b2 hT'
  unfold NBad at h
  generalize i.tmod ((10 ^ E : Nat) : Int) * ((10 ^ (4 - E) : Nat) : Int) = x at *
  generalize i.tdiv ((10 ^ E : Nat) : Int) = q at *
  omega

end Go.Proofs.YtlcalmdjgllkcaaDoor.Dec

/-
  The law on the digits of decimals, walked.
  Conditions: sizes.
-/
import Derived.Test.YtlcalmdjgllkcaaDoorImpl
namespace Go.Proofs.YtlcalmdjgllkcaaDoor.Dec
open Go Go.ChangeShapes Go.WideShapes Go.ChangeAt Go.RowKit

set_option maxRecDepth 100000 in
set_option maxHeartbeats 4000000 in
theorem law_true (n q : Nat) (hn : n < 18446744073709551616) (hq : q < 65536) (W : World) (hW : DecW W) : Calls Tryd.prog 3 #[.int .u64 n, .int .u16 q, .bool true] W (TruePost W) := by
  have HD1 := Go.Lib.hid (fun w => digits_any n 1 hn (by omega) w)
  have HD2 := Go.Lib.hid (fun w => digits_any (q % 10000) 4 (by omega) (by omega) w)
  have HW := Go.Lib.hid hW
  have hp1 : q % 10000 < 10000 := Nat.mod_lt _ (by decide)
  have c1 : IntKind.i64.wrap (((q % 10000 : Nat)) : Int) = ((q % 10000 : Nat) : Int) := IntWalk.i64_in _ (by omega)
  have c2 : IntKind.u64.wrap (((q % 10000 : Nat)) : Int) = ((q % 10000 : Nat) : Int) := IntWalk.u64_in _ (by omega)
  have hmod : ((q : Int) % 10000) = ((q % 10000 : Nat) : Int) := by omega
  have htm : (q : Int).tmod 10000 = ((q % 10000 : Nat) : Int) := by rw [Int.tmod_eq_emod_of_nonneg (by omega)]; omega
  clear hW
  generalize q % 10000 = p at *
  go_enter Tryd.func3, Tryd.ntmps3
  go_wp2_with fail
  refine (HD1.out _).mono ?_
  rintro e w1 ⟨s1, rfl, g1, g2, g3, g4, _, g5⟩
  have hadd1 : ∀ w, (Op.stringOp .add s1 ⟨#[46]⟩).run Tryd.prog w = .ok (.string (bs (s1.data.toList ++ [46]))) w := fun w => by
    rw [run_string_add_sum w _ _ (by show s1.size + 1 ≤ _; omega), ← bs_append, bs_toList]; rfl
  go_wp2_with fail
  refine (HD2.out _).mono ?_
  rintro e w2 ⟨s2, rfl, k1, k2, k3, k4, k6, k5⟩
  have k7 : s2.size = 4 := by have := k6 hp1; omega
  have hadd2 : ∀ w, (Op.stringOp .add (bs (s1.data.toList ++ [46])) s2).run Tryd.prog w = .ok (.string (bs (s1.data.toList ++ 46 :: s2.data.toList))) w := fun w => by
    have hz : s1.data.toList.length = s1.size := by simp
    have hb1 : s1.size ≤ 20 := by omega
    have hb2 : (bs (s1.data.toList ++ [46])).size + s2.size = s1.size + 5 := by rw [bs_size, List.length_append, hz, k7]; rfl
    have hb3 : (bs (s1.data.toList ++ [46])).size + s2.size ≤ 9223372036854775807 := hb2 ▸ Nat.le_trans (Nat.add_le_add_right hb1 5) (by decide)
    rw [run_string_add_sum w _ _ hb3]
    rw [show bs (s1.data.toList ++ [46]) ++ s2 = bs (s1.data.toList ++ [46]) ++ bs s2.data.toList from by rw [bs_toList], bs_append]
    simp
  have hs2 : Since W w2 := Since.trans (W0 := W) g5 k5
  have hl1 : s1.data.toList.length = s1.size := by simp
  have hl2 : s2.data.toList.length = s2.size := by simp
  have hne : s1.data.toList ≠ [] := fun e => by rw [e] at hl1; simp at hl1; omega
  have hI := id_any true s1.data.toList s2.data.toList g1 hne (by omega) k1 (by omega) (by rw [k2]; exact hp1) w2 (HW.out.since hs2)
  rw [g2, k2] at hI
  have hadd3 : ∀ w, (Op.stringOp .add ⟨#[45]⟩ (bs (s1.data.toList ++ 46 :: s2.data.toList))).run Tryd.prog w = .ok (.string (bs ((sg true ++ s1.data.toList) ++ 46 :: s2.data.toList))) w := fun w => by
    rw [run_string_add_sum w _ _ (by rw [bs_size, List.length_append, hl1]; show 1 + _ ≤ _; simp; omega)]
    rw [show (⟨#[45]⟩ : ByteArray) = bs [45] from rfl, bs_append]; rfl
  have HI := Go.Lib.hid hI
  have HS2 := Go.Lib.hid hs2
  clear hI hs2 g1 g2 g3 g4 g5 k1 k2 k3 k4 k5 k6 k7 hl1 hl2 hne HD1 HD2 HW
  generalize bs (s1.data.toList ++ [46]) = u1 at *
  generalize bs (s1.data.toList ++ 46 :: s2.data.toList) = u2 at *
  generalize bs ((sg true ++ s1.data.toList) ++ 46 :: s2.data.toList) = u3 at *
  go_wp2_with fail
  refine HI.out.mono ?_
  rintro e w3 ⟨hb3, h3⟩
  have hb := HS2.out.trans hb3
  clear HI HS2 hb3 hadd1 hadd2 hadd3
  rcases h3 with ⟨hbad, rfl⟩ | ⟨hok, rfl⟩
  · by_cases d1 : (922337203685477 : Int) < (n : Int)
    · clear hbad
      go_wp2
      exact ⟨rfl, _, by simp [results, Tryd.results3, go_sem] <;> rfl, rfl, hb⟩
    · have d2 : n = 922337203685477 := by unfold Bad at hbad; omega
      have d3 : p > 5808 ∨ (p = 5808 ∧ true = false) := by
        unfold Bad at hbad
        rcases hbad with h | ⟨_, h⟩
        · omega
        · exact h
      clear hbad
      subst d2
      by_cases d4 : (5808 : Int) < (p : Int)
      · go_wp2
        exact ⟨rfl, _, by simp [results, Tryd.results3, go_sem] <;> rfl, rfl, hb⟩
      · have d5 : p = 5808 := by omega
        exfalso
        rcases d3 with h | ⟨_, h⟩
        · omega
        · cases h
  · have e1 : n ≤ 922337203685477 := by unfold Bad at hok; omega
    have e2 : n = 922337203685477 → p ≤ 5808 := by unfold Bad at hok; simp at hok; omega
    have hval : sv true n * 10000 + sv true p = -(n : Int) * 10000 - (p : Int) := by unfold sv; simp; omega
    have m1 : IntKind.i64.wrap (n : Int) = n := IntWalk.i64_in _ (by omega)
    have m2 : IntKind.i64.wrap (-(n : Int) * 10000) = -(n : Int) * 10000 := IntWalk.i64_in _ (by omega)
    have m3 : IntKind.i64.wrap (-(n : Int) * 10000 - (p : Int)) = -(n : Int) * 10000 - (p : Int) := IntWalk.i64_in _ (by omega)
    have m4 : IntKind.i64.wrap (-(n : Int)) = -(n : Int) := IntWalk.i64_in _ (by omega)
    rw [hval]
    clear hok hval
    by_cases d2 : n = 922337203685477
    · have e3 := e2 d2
      clear e2
      subst d2
      by_cases d5 : p = 5808
      · subst d5
        go_wp2
        exact ⟨rfl, _, by simp [results, Tryd.results3, go_sem] <;> rfl, rfl, hb⟩
      · have d6 : ¬ ((p : Int) = 5808) := by omega
        have d7 : (p : Int) ≤ 5808 := by omega
        go_wp2
        all_goals exact ⟨rfl, _, by simp [results, Tryd.results3, go_sem] <;> rfl, rfl, hb⟩
    · have d6 : ¬ ((n : Int) = 922337203685477) := by omega
      have d7 : (n : Int) ≤ 922337203685477 := by omega
      clear e2
      go_wp2
      all_goals exact ⟨rfl, _, by simp [results, Tryd.results3, go_sem] <;> rfl, rfl, hb⟩

set_option maxRecDepth 100000 in
set_option maxHeartbeats 4000000 in
theorem law_false (n q : Nat) (hn : n < 18446744073709551616) (hq : q < 65536) (W : World) (hW : DecW W) : Calls Tryd.prog 3 #[.int .u64 n, .int .u16 q, .bool false] W (TruePost W) := by
  have HD1 := Go.Lib.hid (fun w => digits_any n 1 hn (by omega) w)
  have HD2 := Go.Lib.hid (fun w => digits_any (q % 10000) 4 (by omega) (by omega) w)
  have HW := Go.Lib.hid hW
  have hp1 : q % 10000 < 10000 := Nat.mod_lt _ (by decide)
  have c1 : IntKind.i64.wrap (((q % 10000 : Nat)) : Int) = ((q % 10000 : Nat) : Int) := IntWalk.i64_in _ (by omega)
  have c2 : IntKind.u64.wrap (((q % 10000 : Nat)) : Int) = ((q % 10000 : Nat) : Int) := IntWalk.u64_in _ (by omega)
  have hmod : ((q : Int) % 10000) = ((q % 10000 : Nat) : Int) := by omega
  have htm : (q : Int).tmod 10000 = ((q % 10000 : Nat) : Int) := by rw [Int.tmod_eq_emod_of_nonneg (by omega)]; omega
  clear hW
  generalize q % 10000 = p at *
  go_enter Tryd.func3, Tryd.ntmps3
  go_wp2_with fail
  refine (HD1.out _).mono ?_
  rintro e w1 ⟨s1, rfl, g1, g2, g3, g4, _, g5⟩
  have hadd1 : ∀ w, (Op.stringOp .add s1 ⟨#[46]⟩).run Tryd.prog w = .ok (.string (bs (s1.data.toList ++ [46]))) w := fun w => by
    rw [run_string_add_sum w _ _ (by show s1.size + 1 ≤ _; omega), ← bs_append, bs_toList]; rfl
  go_wp2_with fail
  refine (HD2.out _).mono ?_
  rintro e w2 ⟨s2, rfl, k1, k2, k3, k4, k6, k5⟩
  have k7 : s2.size = 4 := by have := k6 hp1; omega
  have hadd2 : ∀ w, (Op.stringOp .add (bs (s1.data.toList ++ [46])) s2).run Tryd.prog w = .ok (.string (bs (s1.data.toList ++ 46 :: s2.data.toList))) w := fun w => by
    have hz : s1.data.toList.length = s1.size := by simp
    have hb1 : s1.size ≤ 20 := by omega
    have hb2 : (bs (s1.data.toList ++ [46])).size + s2.size = s1.size + 5 := by rw [bs_size, List.length_append, hz, k7]; rfl
    have hb3 : (bs (s1.data.toList ++ [46])).size + s2.size ≤ 9223372036854775807 := hb2 ▸ Nat.le_trans (Nat.add_le_add_right hb1 5) (by decide)
    rw [run_string_add_sum w _ _ hb3]
    rw [show bs (s1.data.toList ++ [46]) ++ s2 = bs (s1.data.toList ++ [46]) ++ bs s2.data.toList from by rw [bs_toList], bs_append]
    simp
  have hs2 : Since W w2 := Since.trans (W0 := W) g5 k5
  have hl1 : s1.data.toList.length = s1.size := by simp
  have hl2 : s2.data.toList.length = s2.size := by simp
  have hne : s1.data.toList ≠ [] := fun e => by rw [e] at hl1; simp at hl1; omega
  have hI := id_any false s1.data.toList s2.data.toList g1 hne (by omega) k1 (by omega) (by rw [k2]; exact hp1) w2 (HW.out.since hs2)
  rw [g2, k2] at hI
  have hsg : (sg false ++ s1.data.toList) ++ 46 :: s2.data.toList = s1.data.toList ++ 46 :: s2.data.toList := rfl
  rw [hsg] at hI
  have HI := Go.Lib.hid hI
  have HS2 := Go.Lib.hid hs2
  clear hI hs2 g1 g2 g3 g4 g5 k1 k2 k3 k4 k5 k6 k7 hl1 hl2 hne HD1 HD2 HW
  generalize bs (s1.data.toList ++ [46]) = u1 at *
  generalize bs (s1.data.toList ++ 46 :: s2.data.toList) = u2 at *
  skip
  go_wp2_with fail
  refine HI.out.mono ?_
  rintro e w3 ⟨hb3, h3⟩
  have hb := HS2.out.trans hb3
  clear HI HS2 hb3 hadd1 hadd2 
  rcases h3 with ⟨hbad, rfl⟩ | ⟨hok, rfl⟩
  · by_cases d1 : (922337203685477 : Int) < (n : Int)
    · clear hbad
      go_wp2
      exact ⟨rfl, _, by simp [results, Tryd.results3, go_sem] <;> rfl, rfl, hb⟩
    · have d2 : n = 922337203685477 := by unfold Bad at hbad; omega
      have d3 : p > 5808 ∨ (p = 5808 ∧ false = false) := by
        unfold Bad at hbad
        rcases hbad with h | ⟨_, h⟩
        · omega
        · exact h
      clear hbad
      subst d2
      by_cases d4 : (5808 : Int) < (p : Int)
      · go_wp2
        exact ⟨rfl, _, by simp [results, Tryd.results3, go_sem] <;> rfl, rfl, hb⟩
      · have d5 : p = 5808 := by omega
        subst d5
        go_wp2
        exact ⟨rfl, _, by simp [results, Tryd.results3, go_sem] <;> rfl, rfl, hb⟩
  · have e1 : n ≤ 922337203685477 := by unfold Bad at hok; omega
    have e2 : n = 922337203685477 → p ≤ 5807 := by unfold Bad at hok; simp at hok; omega
    have hval : sv false n * 10000 + sv false p = (n : Int) * 10000 + (p : Int) := by unfold sv; simp
    have m1 : IntKind.i64.wrap (n : Int) = n := IntWalk.i64_in _ (by omega)
    have m2 : IntKind.i64.wrap ((n : Int) * 10000) = (n : Int) * 10000 := IntWalk.i64_in _ (by omega)
    have m3 : IntKind.i64.wrap ((n : Int) * 10000 + (p : Int)) = (n : Int) * 10000 + (p : Int) := IntWalk.i64_in _ (by omega)
    skip
    rw [hval]
    clear hok hval
    by_cases d2 : n = 922337203685477
    · have e3 := e2 d2
      clear e2
      subst d2
      by_cases d5 : p = 5808
      · omega
        
        
      · have d6 : ¬ ((p : Int) = 5808) := by omega
        have d7 : (p : Int) ≤ 5808 := by omega
        go_wp2
        all_goals exact ⟨rfl, _, by simp [results, Tryd.results3, go_sem] <;> rfl, rfl, hb⟩
    · have d6 : ¬ ((n : Int) = 922337203685477) := by omega
      have d7 : (n : Int) ≤ 922337203685477 := by omega
      clear e2
      go_wp2
      all_goals exact ⟨rfl, _, by simp [results, Tryd.results3, go_sem] <;> rfl, rfl, hb⟩

theorem law_any (n q : Nat) (b : Bool) (hn : n < 18446744073709551616) (hq : q < 65536) (W : World) (hW : DecW W) : Calls Tryd.prog 3 #[.int .u64 n, .int .u16 q, .bool b] W (TruePost W) := by
  cases b
  · exact law_false n q hn hq W hW
  · exact law_true n q hn hq W hW

end Go.Proofs.YtlcalmdjgllkcaaDoor.Dec

/-
  The law on the roads of decimals, walked.
  Conditions: sizes.
-/
import Derived.Test.YtlcalmdjgllkcaaDoorRoad
namespace Go.Proofs.YtlcalmdjgllkcaaDoor.Dec
open Go Go.ChangeShapes Go.WideShapes Go.ChangeAt Go.RowKit

set_option maxRecDepth 100000 in
set_option maxHeartbeats 2000000 in
theorem way_pos (i : Int) (hi : -9223372036854775808 ≤ i ∧ i ≤ 9223372036854775807) (less d : Int) (hd : less.tmod 5 = d) (E : Nat) (hE : E ≤ 4) (hdE : d = (E : Int)) (W : World) (hW : RoadW W) : Calls Tryd.prog 4 #[.int .i64 i, .int .i64 less] W (TruePost W) := by
  have HIN := Go.Lib.hid (fun (z : Int) (hz : z = -(E : Int)) w hw => in_any i z _ _ w (nd_any i hi E hE z hz w hw))
  have HIN2 := Go.Lib.hid (fun (h4 : E < 4) (h : -922337203685477580 ≤ i ∧ i ≤ 922337203685477580) (y z : Int) (hy : y = 10 * i) (hz : z = -(E : Int) - 1) w hw => in_any y z _ _ w (nd_again i h E h4 y z hy hz w hw))
  have HFIT := Go.Lib.hid (show E = 4 → ¬ NBad (i.tdiv ((10 ^ E : Nat) : Int)) (i.tmod ((10 ^ E : Nat) : Int) * ((10 ^ (4 - E) : Nat) : Int)) from fun h => by subst h; exact four_fits i hi)
  have HRNG := Go.Lib.hid (n_range i E hE)
  have HW := Go.Lib.hid hW
  clear hW
  generalize i.tmod ((10 ^ E : Nat) : Int) * ((10 ^ (4 - E) : Nat) : Int) = x at *
  generalize i.tdiv ((10 ^ E : Nat) : Int) = q at *
  subst hdE
  go_enter Tryd.func4, Tryd.ntmps4
  go_wp2_with fail
  refine (HIN.out _ (by omega) _ HW.out).mono ?_
  rintro e w1 ⟨s1, h1⟩
  rcases h1 with ⟨hbad, rfl⟩ | ⟨hok, rfl⟩
  · have h4 : E < 4 := Nat.lt_of_le_of_ne hE fun h => HFIT.out h hbad
    have h4c : (E : Int) < 4 := by omega
    clear HFIT HIN HIN2 HRNG hbad
    go_wp2
    exact ⟨rfl, _, by simp [results, Tryd.results4, go_sem] <;> rfl, rfl, s1⟩
  · have hn := HRNG.out hok
    have HOK := Go.Lib.hid hok
    generalize hnn : q * 10000 + x = n at *
    have HTX := Go.Lib.hid (fun w hw => text_any n hn w hw)
    have HW1 := Go.Lib.hid (HW.out.since s1)
    clear HFIT HRNG HIN hok hn
    have HNN := Go.Lib.hid hnn
    clear hnn
    go_wp2_with fail
    refine (HTX.out _ HW1.out).mono ?_
    intro e w2 h2
    have H2 := Go.Lib.hid h2
    obtain ⟨neg, D1, D2, t, rfl, h2'⟩ := h2
    have s2 : Since w1 w2 := h2'.2.2.2.2.2.2.2.2.2
    have HW2 := Go.Lib.hid (HW1.out.since s2)
    have S2 := Go.Lib.hid (s1.trans s2)
    clear h2' s2 s1 HTX HW1
    generalize bs ((sg neg ++ D1) ++ 46 :: D2) = s at *
    go_wp2_with fail
    refine (parse_any n s _ _ H2.out _ HW2.out).mono ?_
    rintro e w3 ⟨rfl, s3⟩
    have S3 := Go.Lib.hid (S2.out.trans s3)
    have HW3 := Go.Lib.hid (HW2.out.since s3)
    clear H2 HW2 s3
    by_cases h4 : E = 4
    · subst h4
      clear HIN2
      go_wp2
      exact ⟨rfl, _, by simp [results, Tryd.results4, go_sem] <;> rfl, rfl, S3.out⟩
    · have h4' : E < 4 := by omega
      have h4n : ((E : Int) == 4) = false := by simp; omega
      by_cases hb : i > 922337203685477580
      · clear HIN2
        go_wp2
        exact ⟨rfl, _, by simp [results, Tryd.results4, go_sem] <;> rfl, rfl, S3.out⟩
      · by_cases hb2 : i < -922337203685477580
        · clear HIN2
          go_wp2
          exact ⟨rfl, _, by simp [results, Tryd.results4, go_sem] <;> rfl, rfl, S3.out⟩
        · have b1 : -922337203685477580 ≤ i := by omega
          have b2 : i ≤ 922337203685477580 := by omega
          have HG := Go.Lib.hid (HIN2.out h4' ⟨b1, b2⟩)
          clear HIN2
          go_wp2_with fail
          refine Calls.mono (HG.out _ _ (by omega) (by omega) _ HW3.out) ?_
          rintro e w4 ⟨s4, h5⟩
          rcases h5 with ⟨hbad, _⟩ | ⟨_, rfl⟩
          · exact absurd hbad HOK.out
          · rw [HNN.out]
            clear HG
            go_wp2
            exact ⟨rfl, _, by simp [results, Tryd.results4, go_sem] <;> rfl, rfl, S3.out.trans s4⟩

set_option maxRecDepth 100000 in
set_option maxHeartbeats 2000000 in
theorem way_neg (i : Int) (hi : -9223372036854775808 ≤ i ∧ i ≤ 9223372036854775807) (less d : Int) (hd : less.tmod 5 = d) (E : Nat) (hE : E ≤ 4) (hdE : d = -(E : Int)) (hd0 : d < 0) (W : World) (hW : RoadW W) : Calls Tryd.prog 4 #[.int .i64 i, .int .i64 less] W (TruePost W) := by
  have HIN := Go.Lib.hid (fun (z : Int) (hz : z = -(E : Int)) w hw => in_any i z _ _ w (nd_any i hi E hE z hz w hw))
  have HIN2 := Go.Lib.hid (fun (h4 : E < 4) (h : -922337203685477580 ≤ i ∧ i ≤ 922337203685477580) (y z : Int) (hy : y = 10 * i) (hz : z = -(E : Int) - 1) w hw => in_any y z _ _ w (nd_again i h E h4 y z hy hz w hw))
  have HFIT := Go.Lib.hid (show E = 4 → ¬ NBad (i.tdiv ((10 ^ E : Nat) : Int)) (i.tmod ((10 ^ E : Nat) : Int) * ((10 ^ (4 - E) : Nat) : Int)) from fun h => by subst h; exact four_fits i hi)
  have HRNG := Go.Lib.hid (n_range i E hE)
  have HW := Go.Lib.hid hW
  clear hW
  generalize i.tmod ((10 ^ E : Nat) : Int) * ((10 ^ (4 - E) : Nat) : Int) = x at *
  generalize i.tdiv ((10 ^ E : Nat) : Int) = q at *
  subst hdE
  go_enter Tryd.func4, Tryd.ntmps4
  go_wp2_with fail
  refine (HIN.out _ (by omega) _ HW.out).mono ?_
  rintro e w1 ⟨s1, h1⟩
  rcases h1 with ⟨hbad, rfl⟩ | ⟨hok, rfl⟩
  · have h4 : E < 4 := Nat.lt_of_le_of_ne hE fun h => HFIT.out h hbad
    have h4c : (E : Int) < 4 := by omega
    clear HFIT HIN HIN2 HRNG hbad
    go_wp2
    exact ⟨rfl, _, by simp [results, Tryd.results4, go_sem] <;> rfl, rfl, s1⟩
  · have hn := HRNG.out hok
    have HOK := Go.Lib.hid hok
    generalize hnn : q * 10000 + x = n at *
    have HTX := Go.Lib.hid (fun w hw => text_any n hn w hw)
    have HW1 := Go.Lib.hid (HW.out.since s1)
    clear HFIT HRNG HIN hok hn
    have HNN := Go.Lib.hid hnn
    clear hnn
    go_wp2_with fail
    refine (HTX.out _ HW1.out).mono ?_
    intro e w2 h2
    have H2 := Go.Lib.hid h2
    obtain ⟨neg, D1, D2, t, rfl, h2'⟩ := h2
    have s2 : Since w1 w2 := h2'.2.2.2.2.2.2.2.2.2
    have HW2 := Go.Lib.hid (HW1.out.since s2)
    have S2 := Go.Lib.hid (s1.trans s2)
    clear h2' s2 s1 HTX HW1
    generalize bs ((sg neg ++ D1) ++ 46 :: D2) = s at *
    go_wp2_with fail
    refine (parse_any n s _ _ H2.out _ HW2.out).mono ?_
    rintro e w3 ⟨rfl, s3⟩
    have S3 := Go.Lib.hid (S2.out.trans s3)
    have HW3 := Go.Lib.hid (HW2.out.since s3)
    clear H2 HW2 s3
    by_cases h4 : E = 4
    · subst h4
      clear HIN2
      go_wp2
      exact ⟨rfl, _, by simp [results, Tryd.results4, go_sem] <;> rfl, rfl, S3.out⟩
    · have h4' : E < 4 := by omega
      have h4n : ((E : Int) == 4) = false := by simp; omega
      by_cases hb : i > 922337203685477580
      · clear HIN2
        go_wp2
        exact ⟨rfl, _, by simp [results, Tryd.results4, go_sem] <;> rfl, rfl, S3.out⟩
      · by_cases hb2 : i < -922337203685477580
        · clear HIN2
          go_wp2
          exact ⟨rfl, _, by simp [results, Tryd.results4, go_sem] <;> rfl, rfl, S3.out⟩
        · have b1 : -922337203685477580 ≤ i := by omega
          have b2 : i ≤ 922337203685477580 := by omega
          have HG := Go.Lib.hid (HIN2.out h4' ⟨b1, b2⟩)
          clear HIN2
          go_wp2_with fail
          refine Calls.mono (HG.out _ _ (by omega) (by omega) _ HW3.out) ?_
          rintro e w4 ⟨s4, h5⟩
          rcases h5 with ⟨hbad, _⟩ | ⟨_, rfl⟩
          · exact absurd hbad HOK.out
          · rw [HNN.out]
            clear HG
            go_wp2
            exact ⟨rfl, _, by simp [results, Tryd.results4, go_sem] <;> rfl, rfl, S3.out.trans s4⟩

theorem way_any (i less : Int) (hi : -9223372036854775808 ≤ i ∧ i ≤ 9223372036854775807) (W : World) (hW : RoadW W) : Calls Tryd.prog 4 #[.int .i64 i, .int .i64 less] W (TruePost W) := by
  have h := tmod_lt less 5 (by decide)
  have h' : (less.tmod 5).natAbs < 5 := h
  by_cases h0 : less.tmod 5 < 0
  · exact way_neg i hi less _ rfl (less.tmod 5).natAbs (by omega) (by omega) h0 W hW
  · exact way_pos i hi less _ rfl (less.tmod 5).natAbs (by omega) (by omega) W hW
end Go.Proofs.YtlcalmdjgllkcaaDoor.Dec

/-
  The text of a negative decimal, walked.
  Conditions: sizes.
-/
import Derived.Test.YtlcalmdjgllkcaaDoorText
namespace Go.Proofs.YtlcalmdjgllkcaaDoor.Dec
open Go Go.ChangeShapes Go.WideShapes Go.ChangeAt Go.RowKit

set_option maxRecDepth 100000 in
set_option maxHeartbeats 2000000 in
theorem str_neg (u : Nat) (hu1 : 1 ≤ u) (hu : u ≤ 9223372036854775808) (v : Int) (hv : v = -(u : Int)) (W : World) (hW : RoadW W) : Calls Tryd.prog 13 #[.agg #[.int .i64 v]] W (StrPost true u W) := by
  have HFI := Go.Lib.hid (fun w hw => fi_any (u / 10000) (by omega) w hw)
  have HZF := Go.Lib.hid (fun w hw => four_any (u % 10000) (Nat.mod_lt _ (by decide)) w hw)
  obtain ⟨q, hq⟩ : ∃ q, q = -((u / 10000 : Nat) : Int) := ⟨_, rfl⟩
  obtain ⟨m, hm⟩ : ∃ m, m = ((u / 10000 : Nat) : Int) := ⟨_, rfl⟩
  obtain ⟨y, hy⟩ : ∃ y, y = ((u % 10000 : Nat) : Int) := ⟨_, rfl⟩
  obtain ⟨x, hx⟩ : ∃ x, x = q * 10000 := ⟨_, rfl⟩
  have d1 : v.tdiv 10000 = q := by rw [hv, hq, Int.neg_tdiv, Int.tdiv_eq_ediv_of_nonneg (by omega)]; omega
  have d2 : q * 10000 = x := hx.symm
  have d3 : x - v = y := by omega
  have d4 : -q = m := by omega
  have wq : -9223372036854775808 ≤ q ∧ q ≤ 9223372036854775807 := by omega
  have wx : -9223372036854775808 ≤ x ∧ x ≤ 9223372036854775807 := by omega
  have wy : -9223372036854775808 ≤ y ∧ y ≤ 9223372036854775807 := by omega
  have wm : -9223372036854775808 ≤ m ∧ m ≤ 9223372036854775807 := by omega
  have hv0 : v < 0 := by omega
  rw [← hm] at HFI
  rw [← hy] at HZF
  have hcell : (W.alloc (.cells #[.int .i64 v] 33)).cell? ⟨W.heap.size, 0, none⟩ = some (.int .i64 v) := by rw [World.cell?_alloc_at _ _ _ _ rfl]; rfl
  have HS2 := Go.Lib.hid (show Since W (W.alloc (.cells #[.int .i64 v] 33)) from (Since.refl W).alloc _)
  have HW2 := Go.Lib.hid (hW.since HS2.out)
  have hQ : ∀ e w', (∃ (D1 D2 : Bs) (t : Nat), e = .returned (.string (bs ((sg true ++ D1) ++ 46 :: D2))) ∧ Digs D1 ∧ D1 ≠ [] ∧ D1.length ≤ 20 ∧ Digs D2 ∧ t ≤ 3 ∧ D2.length + t = 4 ∧ num D1 = u / 10000 ∧ num D2 * 10 ^ t = u % 10000 ∧ Since W w') → StrPost true u W e w' := fun e w' h => h
  have HQ := Go.Lib.hid hQ
  generalize StrPost true u W = Q at *
  clear hW hQ hu1 hu hv hq hm hy hx
  generalize u / 10000 = M at *
  generalize u % 10000 = P at *
  go_enter Tryd.func13, Tryd.ntmps13
  go_wp2_with fail
  refine (HFI.out _ HW2.out).mono ?_
  rintro e w1 ⟨D1, rfl, f1, f2, f3, f4, f5, f6⟩
  have hadd0 : ∀ w, (Op.stringOp .add ⟨#[45]⟩ (bs D1)).run Tryd.prog w = .ok (.string (bs (45 :: D1))) w := add2 [45] D1 (by simp) (by omega)
  have hadd1 : ∀ w, (Op.stringOp .add (bs (45 :: D1)) ⟨#[46]⟩).run Tryd.prog w = .ok (.string (bs (45 :: (D1 ++ [46])))) w := add1 (45 :: D1) (by simp; omega)
  have HW3 := Go.Lib.hid (HW2.out.since f6)
  go_wp2_with fail
  refine (HZF.out _ HW3.out).mono ?_
  rintro e w' ⟨D4, rfl, g1, g2, g3, g4⟩
  have hL : ((45 :: D1) ++ [46]) ++ D4 = 45 :: (D1 ++ 46 :: D4) := by simp
  have hadd2 : ∀ w, (Op.stringOp .add (bs (45 :: (D1 ++ [46]))) (bs D4)).run Tryd.prog w = .ok (.string (bs (45 :: (D1 ++ 46 :: D4)))) w := fun w => by
    have := add2 ((45 :: D1) ++ [46]) D4 (by simp; omega) (by omega) w
    rw [hL] at this
    exact this
  generalize W.alloc (.cells #[.int .i64 v] 33) = W2 at *
  have hsw : Since W2 w' := f6.trans g4
  have hW' : Since W w' := HS2.out.trans hsw
  have HT := fun t ht hz => trim_fact ((45 :: D1) ++ [46]) D4 g3 g1 t ht hz
  rw [hL] at HT
  have HPOST := Go.Lib.hid (show ∀ t r, r + t = (45 :: (D1 ++ 46 :: D4)).length → t ≤ 3 → (∀ j, (45 :: (D1 ++ 46 :: D4)).length ≤ j + t → j < (45 :: (D1 ++ 46 :: D4)).length → (45 :: (D1 ++ 46 :: D4))[j]? = some 48) → Q (.returned (.string (bs ((45 :: (D1 ++ 46 :: D4)).take r)))) w' from fun t r hr ht hz => by
    obtain ⟨q1, q2, q3, q4⟩ := HT t ht hz
    obtain rfl : r = (45 :: (D1 ++ 46 :: D4)).length - t := by omega
    exact HQ.out _ _ ⟨D1, D4.take (4 - t), t, by rw [q1]; simp [sg], f1, by intro e; rw [e] at f3; simp at f3, f4, q4, ht, q3, f2, by rw [q2, g2], hW'⟩)
  have HIX := Go.Lib.hid (fun (r : Nat) (x : UInt8) (h : (45 :: (D1 ++ 46 :: D4))[r - 1]? = some x) (h1 : 1 ≤ r) w => ix (45 :: (D1 ++ 46 :: D4)) ((r : Int) - 1) (r - 1) x (by omega) h w)
  have HST := Go.Lib.hid (fun (r : Nat) (hk : r ≤ (45 :: (D1 ++ 46 :: D4)).length) w => slice_to (45 :: (D1 ++ 46 :: D4)) (r : Int) r rfl hk w)
  have hsz := bs_size (45 :: (D1 ++ 46 :: D4))
  have hn5 : 5 ≤ (45 :: (D1 ++ 46 :: D4)).length ∧ (45 :: (D1 ++ 46 :: D4)).length ≤ 30 := by rw [← hL]; simp [g3]; omega
  have hlen6 : (45 :: (D1 ++ 46 :: D4)).length = D1.length + 6 := by simp [g3]
  have hlt : (bs (45 :: (D1 ++ 46 :: D4))).size ≤ 30 := by rw [hsz]; exact hn5.2
  go_wp2
  clear hlt hsw hW' hL HT hadd0 hadd1 hadd2 f1 f2 f3 f4 f5 f6 g1 g2 g3 g4 d1 d2 d3 d4 wq wx wy wm hcell HFI HZF HS2 HW2 HQ
  generalize (45 :: (D1 ++ 46 :: D4) : Bs) = L at *
  generalize hLn : L.length = n at *
  go_loopw [6, 7] (fun rv tv wr => ∃ t r : Nat, r + t = n ∧ t ≤ 3 ∧ rv = .int .i64 (r : Int) ∧ tv = .int .i64 (t : Int) ∧ (∀ j, n ≤ j + t → j < n → L[j]? = some 48) ∧ wr = w') (fun _ tv _ => 3 - (intOf tv).toNat)
  case atStart => exact ⟨0, n, rfl, by omega, by rw [show ((D1.length : Int) + 6) = (n : Int) by omega], rfl, fun j h1 h2 => by omega, rfl⟩
  case round =>
    obtain ⟨t, r, hrt, ht3, rfl, rfl, hz, rfl⟩ := hrel
    have hst := HST.out r (by omega)
    have HEND := Go.Lib.hid (HPOST.out t r hrt ht3 hz)
    have HZ := Go.Lib.hid hz
    clear hz
    by_cases ht : t < 3
    · obtain ⟨x, hx⟩ : ∃ x, L[r - 1]? = some x := ⟨_, List.getElem?_eq_getElem (by omega)⟩
      have hix := HIX.out r x hx (by omega)
      by_cases hx48 : x = 48
      · subst hx48
        rw [show (48 : UInt8).toNat = 48 from rfl] at hix
        have HX := Go.Lib.hid hx
        clear hx hLn
        go_wp2
        go_roundw
        case rel => exact ⟨t + 1, r - 1, by omega, by omega, by go_num, by go_num, fun j h1 h2 => by
          by_cases hj : n ≤ j + t
          · exact HZ.out j hj h2
          · obtain rfl : j = r - 1 := by omega
            exact HX.out, by trivial⟩
        case measure => simp [intOf]; omega
      · have hne : ((x.toNat : Int) != 48) = true := by
          have : x.toNat ≠ 48 := fun e => hx48 (UInt8.toNat_inj.1 e)
          simp; omega
        clear hx hLn
        go_wp2
        exact HEND.out
    · clear hLn
      go_wp2
      exact HEND.out

end Go.Proofs.YtlcalmdjgllkcaaDoor.Dec

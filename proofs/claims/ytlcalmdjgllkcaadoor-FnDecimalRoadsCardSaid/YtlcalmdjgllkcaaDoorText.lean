/-
  The text of a decimal, walked; the small functions of impl over NewDecimal, ParseDecimal and String.
  Conditions: sizes.
-/
import Derived.Test.YtlcalmdjgllkcaaDoorMake
import Derived.Test.YtlcalmdjgllkcaaDoorImpl
import Derived.Deep.RegionHeld3
namespace Go.Proofs.YtlcalmdjgllkcaaDoor.Dec
open Go Go.ChangeShapes Go.WideShapes Go.ChangeAt Go.RowKit

theorem trim_fact (H D4 : Bs) (h4 : D4.length = 4) (hd : Digs D4) (t : Nat) (ht : t ≤ 3) (hz : ∀ j, (H ++ D4).length ≤ j + t → j < (H ++ D4).length → (H ++ D4)[j]? = some 48) :
    (H ++ D4).take ((H ++ D4).length - t) = H ++ D4.take (4 - t) ∧ num (D4.take (4 - t)) * 10 ^ t = num D4 ∧ (D4.take (4 - t)).length + t = 4 ∧ Digs (D4.take (4 - t)) := by
  have hl : (H ++ D4).length = H.length + 4 := by rw [List.length_append, h4]
  refine ⟨?_, ?_, ?_, fun c hc => hd c (List.mem_of_mem_take hc)⟩
  · rw [hl, List.take_append, List.take_of_length_le (by omega), show H.length + 4 - t - H.length = 4 - t by omega]
  · have e := num_append (D4.take (4 - t)) (D4.drop (4 - t))
    rw [List.take_append_drop, List.length_drop, h4, show 4 - (4 - t) = t by omega] at e
    rw [e, num_zeros (D4.drop (4 - t)), Nat.add_zero]
    intro c hc
    obtain ⟨i, hi, rfl⟩ := List.getElem_of_mem hc
    rw [List.length_drop, h4] at hi
    have := hz (H.length + (4 - t + i)) (by omega) (by omega)
    rw [List.getElem?_append_right (by omega), show H.length + (4 - t + i) - H.length = 4 - t + i by omega, List.getElem?_eq_getElem (by omega)] at this
    rw [List.getElem_drop]
    exact Option.some.inj this
  · rw [List.length_take, h4]; omega

theorem slice_to (l : Bs) (z : Int) (k : Nat) (hz : z = (k : Int)) (hk : k ≤ l.length) (w : World) : (Instr.slice 9 (.string (bs l)) none (some (.int .i64 z)) none).run Tryd.prog w = .ok (.string (bs (l.take k))) w := by
  subst hz
  rw [run_slice_string_h w 9 (bs l) Tryd.underlying9 .i64 (k : Int) (by omega) (by rw [bs_size]; omega)]
  have e1 : ((k : Int)).toNat = k := by omega
  rw [e1, bs_extract]
  simp

def StrPost (neg : Bool) (u : Nat) (W : World) (e : Ending) (W' : World) : Prop :=
  ∃ (D1 D2 : Bs) (t : Nat), e = .returned (.string (bs ((sg neg ++ D1) ++ 46 :: D2))) ∧ Digs D1 ∧ D1 ≠ [] ∧ D1.length ≤ 20 ∧ Digs D2 ∧ t ≤ 3 ∧ D2.length + t = 4 ∧ num D1 = u / 10000 ∧ num D2 * 10 ^ t = u % 10000 ∧ Since W W'

theorem keepS {W2 w w' : World} {b o : Nat} {v : Value} (k : Since w w') (hc : w.cell? ⟨b, o, none⟩ = some v) (hs : Since W2 w) : w'.cell? ⟨b, o, none⟩ = some v ∧ Since W2 w' := ⟨cell_since k hc, hs.trans k⟩
theorem add1 (D1 : Bs) (h : D1.length ≤ 30) (w : World) : (Op.stringOp .add (bs D1) ⟨#[46]⟩).run Tryd.prog w = .ok (.string (bs (D1 ++ [46]))) w := by
  have hb : (bs D1).size + (⟨#[46]⟩ : ByteArray).size ≤ 9223372036854775807 := by rw [bs_size]; show D1.length + 1 ≤ _; omega
  rw [run_string_add_sum w _ _ hb, show (⟨#[46]⟩ : ByteArray) = bs [46] from rfl, bs_append]
theorem add2 (D1 D2 : Bs) (h : D1.length ≤ 30) (h2 : D2.length ≤ 30) (w : World) : (Op.stringOp .add (bs D1) (bs D2)).run Tryd.prog w = .ok (.string (bs (D1 ++ D2))) w := by
  have hb : (bs D1).size + (bs D2).size ≤ 9223372036854775807 := by rw [bs_size, bs_size]; omega
  rw [run_string_add_sum w _ _ hb, bs_append]

set_option maxHeartbeats 2000000 in
theorem str_pos (u : Nat) (hu : u ≤ 9223372036854775807) (W : World) (hW : RoadW W) : Calls Tryd.prog 13 #[.agg #[.int .i64 u]] W (StrPost false u W) := by
  have HFI := Go.Lib.hid (fun (z : Int) (hz : z = ((u / 10000 : Nat) : Int)) w hw => show Calls Tryd.prog 19 #[.int .i64 z, .int .i64 10] w _ from hz ▸ fi_any (u / 10000) (by omega) w hw)
  have HZF := Go.Lib.hid (fun (z : Int) (hz : z = ((u % 10000 : Nat) : Int)) w hw => show Calls Tryd.prog 20 #[.int .i64 z] w _ from hz ▸ four_any (u % 10000) (Nat.mod_lt _ (by decide)) w hw)
  have d1 : (u : Int).tdiv 10000 = ((u / 10000 : Nat) : Int) := by rw [Int.tdiv_eq_ediv_of_nonneg (by omega)]; omega
  have d2 : (u : Int).tmod 10000 = ((u % 10000 : Nat) : Int) := by rw [Int.tmod_eq_emod_of_nonneg (by omega)]; omega
  have hcell : (W.alloc (.cells #[.int .i64 u] 33)).cell? ⟨W.heap.size, 0, none⟩ = some (.int .i64 u) := by rw [World.cell?_alloc_at _ _ _ _ rfl]; rfl
  have HS2 := Go.Lib.hid (show Since W (W.alloc (.cells #[.int .i64 u] 33)) from (Since.refl W).alloc _)
  have HW2 := Go.Lib.hid (hW.since HS2.out)
  have e1 : ((u / 10000 : Nat) : Int) = (u : Int) / 10000 := by omega
  have e2 : ((u % 10000 : Nat) : Int) = (u : Int) % 10000 := by omega
  have wr1 : IntKind.i64.wrap ((u : Int) / 10000) = (u : Int) / 10000 := IntWalk.i64_in _ (by omega)
  have wr2 : IntKind.i64.wrap ((u : Int) % 10000) = (u : Int) % 10000 := IntWalk.i64_in _ (by omega)
  clear hW
  go_enter Tryd.func13, Tryd.ntmps13
  go_wp2
  generalize W.alloc (.cells #[.int .i64 u] 33) = W2 at *
  have hs0 : Since W2 W2 := Since.refl _
  go_region_held3 (fun w' => w'.cell? ⟨W.heap.size, 0, none⟩ = some (.int .i64 u) ∧ Since W2 w')
    (first | exact keepS ((Since.refl W2).drew) hcell hs0 | (go_split_ands; exact keepS (by assumption) (by assumption) (by assumption)))
    (first | (go_at_call 19; refine (HFI.out _ (by first | exact e1.symm | exact d1) _ (by go_split_ands; exact HW2.out.since (by assumption))).mono ?_; rintro e w' ⟨D1, rfl, f1, f2, f3, f4, f5, f6⟩; have hadd1 := add1 D1 (by omega)) | (go_at_call 20; refine (HZF.out _ (by first | exact e2.symm | exact d2) _ (by go_split_ands; exact HW2.out.since (by assumption))).mono ?_; rintro e w' ⟨D4, rfl, g1, g2, g3, g4⟩; have hadd2 := add2 (D1 ++ [46]) D4 (by simp; omega) (by omega)))
  go_split_ands
  have hsw : Since W2 w' := by assumption
  have hW' : Since W w' := HS2.out.trans hsw
  have hL : (D1 ++ [46]) ++ D4 = D1 ++ 46 :: D4 := by simp
  have HT := fun t ht hz => trim_fact (D1 ++ [46]) D4 g3 g1 t ht hz
  rw [hL] at HT
  have HPOST := Go.Lib.hid (show ∀ t r, r + t = (D1 ++ 46 :: D4).length → t ≤ 3 → (∀ j, (D1 ++ 46 :: D4).length ≤ j + t → j < (D1 ++ 46 :: D4).length → (D1 ++ 46 :: D4)[j]? = some 48) → StrPost false u W (.returned (.string (bs ((D1 ++ 46 :: D4).take r)))) w' from fun t r hr ht hz => by
    obtain ⟨q1, q2, q3, q4⟩ := HT t ht hz
    obtain rfl : r = (D1 ++ 46 :: D4).length - t := by omega
    exact ⟨D1, D4.take (4 - t), t, by rw [q1]; simp [sg], f1, by intro e; rw [e] at f3; simp at f3, f4, q4, ht, q3, f2, by rw [q2, g2], hW'⟩)
  have HIX := Go.Lib.hid (fun (r : Nat) (x : UInt8) (h : (D1 ++ 46 :: D4)[r - 1]? = some x) (h1 : 1 ≤ r) w => ix (D1 ++ 46 :: D4) ((r : Int) - 1) (r - 1) x (by omega) h w)
  have HST := Go.Lib.hid (fun (r : Nat) (hk : r ≤ (D1 ++ 46 :: D4).length) w => slice_to (D1 ++ 46 :: D4) (r : Int) r rfl hk w)
  have hsz := bs_size (D1 ++ 46 :: D4)
  have hn5 : 5 ≤ (D1 ++ 46 :: D4).length ∧ (D1 ++ 46 :: D4).length ≤ 30 := by rw [← hL]; simp [g3]; omega
  clear hsw hW' hL HT hadd1 hadd2 f1 f2 f3 f4 f5 f6 g1 g2 g3 g4 d1 d2 e1 e2 wr1 wr2 hcell HFI HZF HS2 HW2 hs0
  generalize D1 ++ 46 :: D4 = L at *
  generalize hLn : L.length = n at *
  go_wp2
  go_loopw [6, 7] (fun rv tv wr => ∃ t r : Nat, r + t = n ∧ t ≤ 3 ∧ rv = .int .i64 (r : Int) ∧ tv = .int .i64 (t : Int) ∧ (∀ j, n ≤ j + t → j < n → L[j]? = some 48) ∧ wr = w') (fun _ tv _ => 3 - (intOf tv).toNat)
  case atStart => exact ⟨0, n, rfl, by omega, rfl, rfl, fun j h1 h2 => by omega, rfl⟩
  case round =>
    obtain ⟨t, r, hrt, ht3, rfl, rfl, hz, rfl⟩ := hrel
    have hst := HST.out r (by omega)
    have HEND := Go.Lib.hid (HPOST.out t r hrt ht3 hz)
    have HZ := Go.Lib.hid hz
    clear hz
    by_cases ht : t < 3
    · obtain ⟨x, hx⟩ : ∃ x, L[r - 1]? = some x := ⟨_, List.getElem?_eq_getElem (by omega)⟩
      have hix := HIX.out r x hx (by omega)
      by_cases hx48 : x = 48
      · subst hx48
        rw [show (48 : UInt8).toNat = 48 from rfl] at hix
        have HX := Go.Lib.hid hx
        clear hx hLn
        go_wp2
        go_roundw
        case rel => exact ⟨t + 1, r - 1, by omega, by omega, by go_num, by go_num, fun j h1 h2 => by
          by_cases hj : n ≤ j + t
          · exact HZ.out j hj h2
          · obtain rfl : j = r - 1 := by omega
            exact HX.out, by trivial⟩
        case measure => simp [intOf]; omega
      · have hne : ((x.toNat : Int) != 48) = true := by
          have : x.toNat ≠ 48 := fun e => hx48 (UInt8.toNat_inj.1 e)
          simp; omega
        clear hx hLn
        go_wp2
        exact ⟨rfl, _, by simp [results, Tryd.results13, go_sem] <;> rfl, HEND.out⟩
    · clear hLn
      go_wp2
      exact ⟨rfl, _, by simp [results, Tryd.results13, go_sem] <;> rfl, HEND.out⟩

end Go.Proofs.YtlcalmdjgllkcaaDoor.Dec

/-
  The law's small helpers over texts: letters, reads7.
  Conditions: sizes.
-/
import Derived.Test.YthklhdeegmanbaaDoorUnesc
namespace Go.Proofs.YthklhdeegmanbaaDoor.Esc
open Go Go.ChangeShapes Go.WideShapes Go.ChangeAt Go.RowKit

theorem bs_extract (l : Bs) (i j : Nat) : (bs l).extract i j = bs ((l.drop i).take (j - i)) := by
  apply ByteArray.ext
  show ((bs l).extract i j).data = ((l.drop i).take (j - i)).toArray
  rw [ByteArray.data_extract]
  simp [bs, List.extract_eq_take_drop]
theorem slice3 (l : Bs) (k : Nat) (h : k + 3 ≤ l.length) (w : World) : (Instr.slice 9 (.string (bs l)) (some (.int .i64 (k : Int))) (some (.int .i64 ((k : Int) + 3))) none).run Tryd.prog w = .ok (.string (bs ((l.drop k).take 3))) w := by
  rw [run_slice_string w 9 (bs l) .i64 .i64 (k : Int) ((k : Int) + 3) Tryd.underlying9 (by omega) (by omega) (by rw [bs_size]; omega)]
  have e1 : ((k : Int)).toNat = k := by omega
  have e2 : ((k : Int) + 3).toNat = k + 3 := by omega
  rw [e1, e2, bs_extract, Nat.add_sub_cancel_left]

def LetPost (l : Bs) (W : World) (e : Ending) (W' : World) : Prop := ∃ b : Bool, e = .returned (.bool b) ∧ (b = true → Good l) ∧ Since W W'

set_option maxHeartbeats 400000 in
theorem letters_any (l : Bs) (W : World) (hn : l.length ≤ 2147483647) (hT : Tabs W) : Calls Tryd.prog 5 #[.string (bs l)] W (LetPost l W) := by
  have hsz := bs_size l
  have HV := Go.Lib.hid (fun w (hs : Since W w) => Tryd.utf8_ValidString (bs l) w (by rw [hsz]; omega) (tabs_since hT hs))
  have HSZ := Go.Lib.hid hsz
  generalize hn0 : l.length = n at *
  have HN := Go.Lib.hid hn0
  clear hn0 hT
  go_enter Tryd.func5, Tryd.ntmps5
  go_wp2
  go_loopw [3] (fun iv wr => ∃ k : Nat, k ≤ n ∧ iv = .int .i64 k ∧ (∀ j, j < k → (l.drop j).take 3 ≠ [239, 191, 189]) ∧ Since W wr) (fun iv _ => n - (intOf iv).toNat)
  case atStart => exact ⟨0, Nat.zero_le _, rfl, fun j hj => by omega, Since.refl W⟩
  case round =>
    obtain ⟨k, hk, rfl, hall, hb⟩ := hrel
    have HALL := Go.Lib.hid hall
    clear hall
    by_cases hkn : k + 2 < n
    · have h1 : (k : Int) + 2 < (n : Int) := by omega
      have hsl := slice3 l k (by rw [HN.out]; omega) wr
      by_cases heq : (l.drop k).take 3 = [239, 191, 189]
      · have hsl2 : (Instr.slice 9 (.string (bs l)) (some (.int .i64 (k : Int))) (some (.int .i64 ((k : Int) + 3))) none).run Tryd.prog wr = .ok (.string ⟨#[239, 191, 189]⟩) wr := by rw [hsl, heq]; rfl
        clear hsl heq
        go_wp2
        exact ⟨rfl, _, by simp [results, Tryd.results5, go_sem], false, rfl, (fun h => by cases h), hb⟩
      · have hne : ¬ (bs ((l.drop k).take 3)).toList = [239, 191, 189] := by
          intro h
          apply heq
          rw [ByteArray.toList_eq] at h
          simpa [bs] using h
        have hrel : ∀ j, j < k + 1 → (l.drop j).take 3 ≠ [239, 191, 189] := fun j hj => by
          by_cases h : j < k
          · exact HALL.out j h
          · obtain rfl : j = k := by omega
            exact heq
        have HREL := Go.Lib.hid hrel
        clear hrel heq
        generalize bs ((l.drop k).take 3) = q at *
        have hk1 : k + 1 ≤ n := by omega
        go_wp2
        · rename_i h
          exact absurd (by simpa using h) hne
        · exact ⟨⟨k + 1, hk1, by go_num, HREL.out, hb⟩, by simp [intOf]; omega⟩
    · have h1 : ¬ ((k : Int) + 2 < (n : Int)) := by omega
      go_wp2_with fail
      refine (HV.out _ hb).mono ?_
      rintro e w1 ⟨rfl, hs1⟩
      have hs2 : Since W w1 := hb.trans hs1
      have hgood : Lib.validD (bs l).data.toList = true → Good l := fun h => by
        refine good_of l.length l (Nat.le_refl _) (by simpa [bs] using h) (fun j => ?_)
        by_cases hj : j < k
        · exact HALL.out j hj
        · intro e
          have := congrArg List.length e
          simp [HN.out] at this
          omega
      have HGD := Go.Lib.hid hgood
      clear hgood
      go_wp2
      exact ⟨rfl, _, by simp [results, Tryd.results5, go_sem], _, rfl, HGD.out, hs2⟩

def TruePost (W : World) (e : Ending) (W' : World) : Prop := e = .returned (.bool true) ∧ Since W W'
theorem one_a : unq false [97] = some ([97], []) := by decide
theorem good_a : Good [97] := .step _ (by simp) (by decide) .nil
theorem reads_any (W : World) (hT : Tabs W) : Calls Tryd.prog 7 #[] W (TruePost W) := by
  have HU := Go.Lib.hid (unesc_any [97] false W (by simp) hT good_a)
  go_enter Tryd.func7, Tryd.ntmps7
  go_wp2_with fail
  refine HU.out.mono ?_
  rintro e w1 ⟨hs1, ⟨hno, rfl⟩ | ⟨s, r, hyes, rfl⟩⟩
  · rw [one_a] at hno; cases hno
  · rw [one_a] at hyes
    simp at hyes
    obtain ⟨rfl, rfl⟩ := hyes
    have e1 : bs [97] = ⟨#[97]⟩ := rfl
    rw [e1]
    go_wp2
    exact ⟨rfl, _, by simp [results, Tryd.results7, go_sem], rfl, hs1⟩

end Go.Proofs.YthklhdeegmanbaaDoor.Esc

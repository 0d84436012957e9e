/-
  The law on a star behind a text, walked.
  Conditions: sizes.
-/
import Derived.Test.YthklhdeegmanbaaDoorLett
namespace Go.Proofs.YthklhdeegmanbaaDoor.Esc
open Go Go.ChangeShapes Go.WideShapes Go.ChangeAt Go.RowKit

theorem bs_append (a b : Bs) : bs a ++ bs b = bs (a ++ b) := by
  apply ByteArray.ext
  rw [ByteArray.data_append]
  simp [bs]
theorem bs_toList' (l : Bs) : (bs l).toList = l := by rw [ByteArray.toList_eq]; simp [bs]

set_option maxHeartbeats 2000000 in
theorem star_walk (la lb : Bs) (W : World) (hT : Tabs W) : Calls Tryd.prog 3 #[.string (bs la), .string (bs lb)] W (TruePost W) := by
  have hsa := bs_size la
  have hsb := bs_size lb
  by_cases c1 : (2147483647 : Int) < (la.length : Int)
  · go_enter Tryd.func3, Tryd.ntmps3
    go_wp2
    exact ⟨rfl, _, by simp [results, Tryd.results3, go_sem], rfl, Since.refl W⟩
  by_cases c2 : (2147483647 : Int) < (lb.length : Int)
  · go_enter Tryd.func3, Tryd.ntmps3
    go_wp2
    exact ⟨rfl, _, by simp [results, Tryd.results3, go_sem], rfl, Since.refl W⟩
  by_cases c3 : (500 : Int) < (la.length : Int)
  · go_enter Tryd.func3, Tryd.ntmps3
    go_wp2
    exact ⟨rfl, _, by simp [results, Tryd.results3, go_sem], rfl, Since.refl W⟩
  by_cases c4 : (500 : Int) < (lb.length : Int)
  · go_enter Tryd.func3, Tryd.ntmps3
    go_wp2
    exact ⟨rfl, _, by simp [results, Tryd.results3, go_sem], rfl, Since.refl W⟩
  have na : la.length ≤ 500 := by omega
  have nb : lb.length ≤ 500 := by omega
  have nab : (la ++ 42 :: lb).length ≤ 2000 := by simp; omega
  have HLA := Go.Lib.hid (fun w (hs : Since W w) => letters_any la w (by omega) (tabs_since hT hs))
  have HLB := Go.Lib.hid (fun w (hs : Since W w) => letters_any lb w (by omega) (tabs_since hT hs))
  have HLC := Go.Lib.hid (fun w (hs : Since W w) => letters_any (la ++ 42 :: lb) w (by omega) (tabs_since hT hs))
  have HUA := Go.Lib.hid (fun w (hs : Since W w) (hg : Good la) => unesc_any la true w (by omega) (tabs_since hT hs) hg)
  have HUC := Go.Lib.hid (fun w (hs : Since W w) (hg : Good (la ++ 42 :: lb)) => unesc_any (la ++ 42 :: lb) true w nab (tabs_since hT hs) hg)
  have HRD := Go.Lib.hid (fun w (hs : Since W w) => reads_any w (tabs_since hT hs))
  have hadd1 : ∀ w, (Op.stringOp .add (bs la) ⟨#[42]⟩).run Tryd.prog w = .ok (.string (bs (la ++ [42]))) w := fun w => by
    rw [run_string_add_sum w _ _ (by rw [hsa]; show la.length + 1 ≤ _; omega)]
    rw [← bs_append]; rfl
  have hadd2 : ∀ w, (Op.stringOp .add (bs (la ++ [42])) (bs lb)).run Tryd.prog w = .ok (.string (bs (la ++ 42 :: lb))) w := fun w => by
    rw [run_string_add_sum w _ _ (by rw [bs_size, bs_size]; simp; omega)]
    rw [bs_append]; simp
  have hadd3 : ∀ w, (Op.stringOp .add ⟨#[42]⟩ (bs lb)).run Tryd.prog w = .ok (.string (bs (42 :: lb))) w := fun w => by
    rw [run_string_add_sum w _ _ (by rw [hsb]; show 1 + lb.length ≤ _; omega)]
    have : (⟨#[42]⟩ : ByteArray) = bs [42] := rfl
    rw [this, bs_append]; rfl
  clear hT
  go_enter Tryd.func3, Tryd.ntmps3
  go_wp2_with fail
  refine (HLA.out _ (Since.refl W)).mono ?_
  rintro e w1 ⟨r1, rfl, hg1, hs1⟩
  have HG1 := Go.Lib.hid hg1
  clear hg1
  cases r1
  · go_wp2
    exact ⟨rfl, _, by simp [results, Tryd.results3, go_sem], rfl, hs1⟩
  go_wp2_with fail
  refine (HLB.out _ hs1).mono ?_
  rintro e w2 ⟨r2, rfl, _, hs2⟩
  have hs2' := hs1.trans hs2
  cases r2
  · go_wp2
    exact ⟨rfl, _, by simp [results, Tryd.results3, go_sem], rfl, hs2'⟩
  go_wp2_with fail
  refine (HLC.out _ hs2').mono ?_
  rintro e w3 ⟨r3, rfl, hg3, hs3⟩
  have HG3 := Go.Lib.hid hg3
  clear hg3
  have hs3' := hs2'.trans hs3
  cases r3
  · go_wp2
    exact ⟨rfl, _, by simp [results, Tryd.results3, go_sem], rfl, hs3'⟩
  have hga := HG1.out trivial
  have hgc := HG3.out rfl
  go_wp2_with fail
  refine (HUA.out _ hs3' hga).mono ?_
  rintro e w4 ⟨hs4, ⟨hno, rfl⟩ | ⟨s, r, hyes, rfl⟩⟩
  · have hs4' := hs3'.trans hs4
    go_wp2_with fail
    refine (HRD.out _ hs4').mono ?_
    rintro e w5 ⟨rfl, hs5⟩
    go_wp2
    exact ⟨rfl, _, by simp [results, Tryd.results3, go_sem], rfl, hs4'.trans hs5⟩
  · have hs4' := hs3'.trans hs4
    cases r with
    | cons y r =>
      have hne : (bs (y :: r)).toList.isEmpty = false := by rw [bs_toList']; rfl
      generalize bs (y :: r) = q at *
      go_wp2_with fail
      refine (HRD.out _ hs4').mono ?_
      rintro e w5 ⟨rfl, hs5⟩
      go_wp2
      exact ⟨rfl, _, by simp [results, Tryd.results3, go_sem], rfl, hs4'.trans hs5⟩
    | nil =>
      have hyes2 := unq_before la.length la s 42 lb (Nat.le_refl _) hga rfl hyes
      have hbe : bs [] = ⟨#[]⟩ := rfl
      rw [hbe]
      clear hyes
      go_wp2_with fail
      refine (HUC.out _ hs4' hgc).mono ?_
      rintro e w5 ⟨hs5, ⟨hno, rfl⟩ | ⟨s', r', hyes', rfl⟩⟩
      · rw [hyes2] at hno; cases hno
      · rw [hyes2] at hyes'
        simp at hyes'
        obtain ⟨rfl, rfl⟩ := hyes'
        have hs5' := hs4'.trans hs5
        go_wp2
        exact ⟨rfl, _, by simp [results, Tryd.results3, go_sem], rfl, hs5'⟩

theorem star_law (a b : ByteArray) (W : World) (hT : Tabs W) : Calls Tryd.prog 3 #[.string a, .string b] W (TruePost W) := by
  have := star_walk a.data.toList b.data.toList W hT
  rwa [bs_toList, bs_toList] at this

end Go.Proofs.YthklhdeegmanbaaDoor.Esc

/-
  The law on all texts, walked: the package and the reference both answer as the plain reading does.
  Conditions: sizes.
-/
import Derived.Test.YthklhdeegmanbaaDoorRefF
import Derived.Test.YthklhdeegmanbaaDoorRefT
namespace Go.Proofs.YthklhdeegmanbaaDoor.Esc
open Go Go.ChangeShapes Go.WideShapes Go.ChangeAt Go.RowKit

theorem ref_any (l : Bs) (star : Bool) (W : World) (hn2 : l.length ≤ 2000) (hT : Tabs W) (hg : Good l) : Calls Tryd.prog 8 #[.string (bs l), .bool star] W (UPost l star W) := by
  cases star
  · exact ref_false l W hn2 hT hg
  · exact ref_true l W hn2 hT hg

set_option maxHeartbeats 2000000 in
theorem both_walk (l : Bs) (star : Bool) (W : World) (hT : Tabs W) : Calls Tryd.prog 4 #[.string (bs l), .bool star] W (TruePost W) := by
  have hs := bs_size l
  by_cases c1 : (2147483647 : Int) < (l.length : Int)
  · go_enter Tryd.func4, Tryd.ntmps4
    go_wp2
    exact ⟨rfl, _, by simp [results, Tryd.results4, go_sem], rfl, Since.refl W⟩
  by_cases c2 : (1000 : Int) < (l.length : Int)
  · go_enter Tryd.func4, Tryd.ntmps4
    go_wp2
    exact ⟨rfl, _, by simp [results, Tryd.results4, go_sem], rfl, Since.refl W⟩
  have hn : l.length ≤ 1000 := by omega
  have HL := Go.Lib.hid (fun w (hs : Since W w) => letters_any l w (by omega) (tabs_since hT hs))
  have HU := Go.Lib.hid (fun w (hs : Since W w) (hg : Good l) => unesc_any l star w (by omega) (tabs_since hT hs) hg)
  have HR := Go.Lib.hid (fun w (hs : Since W w) (hg : Good l) => ref_any l star w (by omega) (tabs_since hT hs) hg)
  clear hT
  go_enter Tryd.func4, Tryd.ntmps4
  go_wp2_with fail
  refine (HL.out _ (Since.refl W)).mono ?_
  rintro e w1 ⟨r1, rfl, hg1, hs1⟩
  have HG1 := Go.Lib.hid hg1
  clear hg1
  cases r1
  · go_wp2
    exact ⟨rfl, _, by simp [results, Tryd.results4, go_sem], rfl, hs1⟩
  have hga := HG1.out rfl
  go_wp2_with fail
  refine (HU.out _ hs1 hga).mono ?_
  rintro e w2 ⟨hs2, h2⟩
  have hs2' := hs1.trans hs2
  rcases h2 with ⟨hno, rfl⟩ | ⟨s, r, hyes, rfl⟩
  · go_wp2_with fail
    refine (HR.out _ hs2' hga).mono ?_
    rintro e w3 ⟨hs3, h3⟩
    have hs3' := hs2'.trans hs3
    rcases h3 with ⟨_, rfl⟩ | ⟨s', r', hyes', rfl⟩
    · go_wp2
      exact ⟨rfl, _, by simp [results, Tryd.results4, go_sem], rfl, hs3'⟩
    · rw [hno] at hyes'; cases hyes'
  · go_wp2_with fail
    refine (HR.out _ hs2' hga).mono ?_
    rintro e w3 ⟨hs3, h3⟩
    have hs3' := hs2'.trans hs3
    rcases h3 with ⟨hno', rfl⟩ | ⟨s', r', hyes', rfl⟩
    · rw [hyes] at hno'; cases hno'
    · rw [hyes] at hyes'
      simp at hyes'
      obtain ⟨rfl, rfl⟩ := hyes'
      clear hyes
      go_wp2
      exact ⟨rfl, _, by simp [results, Tryd.results4, go_sem], rfl, hs3'⟩

theorem both_law (a : ByteArray) (star : Bool) (W : World) (hT : Tabs W) : Calls Tryd.prog 4 #[.string a, .bool star] W (TruePost W) := by
  have := both_walk a.data.toList star W hT
  rwa [bs_toList] at this

end Go.Proofs.YthklhdeegmanbaaDoor.Esc

/-
  The law's small helpers over steps of sets: sizes, weights.
  Conditions: sizes.
-/
import Derived.Test.YtgliaglnblhinaaDoorLess
namespace Go.Proofs.YtgliaglnblhinaaDoor.Sets
open Go Go.ChangeShapes Go.WideShapes Go.ChangeAt Go.RowKit

def AnyPost (W : World) (e : Ending) (W' : World) : Prop := ∃ b : Bool, e = .returned (.bool b) ∧ Since W W'

theorem fits2 (u : Uid) (W : World) : Calls Tryd.prog 25 #[.agg #[.string u.1, .string u.2]] W (AnyPost W) := by
  obtain ⟨u1, u2⟩ := u
  by_cases h1 : (2147483647 : Int) < (u1.size : Int)
  · go_enter Tryd.func25, Tryd.ntmps25
    go_wp2
    exact ⟨rfl, _, by simp [results, Tryd.results25, go_sem], false, rfl, (Since.refl W).alloc _⟩
  · by_cases h2 : (2147483647 : Int) < (u2.size : Int)
    · go_enter Tryd.func25, Tryd.ntmps25
      go_wp2
      exact ⟨rfl, _, by simp [results, Tryd.results25, go_sem], false, rfl, (Since.refl W).alloc _⟩
    · go_enter Tryd.func25, Tryd.ntmps25
      go_wp2
      exact ⟨rfl, _, by simp [results, Tryd.results25, go_sem], true, rfl, (Since.refl W).alloc _⟩

theorem fits13 (k : Int) (u : Uid) (W : World) : Calls Tryd.prog 14 #[.agg #[.int .i64 k, .string u.1, .string u.2]] W (AnyPost W) := by
  go_enter Tryd.func14, Tryd.ntmps14
  go_wp2_with fail
  refine (fits2 u _).mono ?_
  rintro e w1 ⟨b, rfl, hs⟩
  have hs' : Since W w1 := ((Since.refl W).alloc _).trans hs
  cases b
  · go_wp2
    exact ⟨rfl, _, by simp [results, Tryd.results14, go_sem], false, rfl, hs'⟩
  · go_wp2
    exact ⟨rfl, _, by simp [results, Tryd.results14, go_sem], true, rfl, hs'⟩

abbrev Step := Int × Uid
def stepCells (l : List Step) : List Value := l.flatMap fun x => [.int .i64 x.1, .string x.2.1, .string x.2.2]
theorem stepCells_at {l : List Step} {k : Nat} {x : Step} (h : l[k]? = some x) : (stepCells l)[3 * k]? = some (.int .i64 x.1) ∧ (stepCells l)[3 * k + 1]? = some (.string x.2.1) ∧ (stepCells l)[3 * k + 2]? = some (.string x.2.2) := by
  induction l generalizing k with
  | nil => simp at h
  | cons y l ih =>
    cases k with
    | zero => simp at h; subst h; exact ⟨rfl, rfl, rfl⟩
    | succ k =>
      simp at h
      have := ih h
      rw [show 3 * (k + 1) = 3 * k + 1 + 1 + 1 by omega]
      exact this

set_option maxHeartbeats 400000 in
theorem fits12 (l : List Step) (A : Option Addr) (cap : Nat) (W : World) (hn : l.length ≤ maxLen) (hseq : Seq W 3 A l.length (stepCells l)) :
    Calls Tryd.prog 6 #[.slice A l.length cap] W (AnyPost W) := by
  unfold maxLen at hn
  generalize hn0 : l.length = n at *
  have HN := Go.Lib.hid hn0
  clear hn0
  by_cases hbig : (2147483647 : Int) < (n : Int)
  · go_enter Tryd.func6, Tryd.ntmps6
    go_wp2
    exact ⟨rfl, _, by simp [results, Tryd.results6, go_sem], false, rfl, Since.refl W⟩
  · go_enter Tryd.func6, Tryd.ntmps6
    go_wp2
    go_loopw [10] (fun iv wr => ∃ k : Nat, k ≤ n ∧ iv = .int .i64 k ∧ Since W wr) (fun iv _ => n - (intOf iv).toNat)
    case atStart => exact ⟨0, Nat.zero_le _, rfl, Since.refl W⟩
    case round =>
      obtain ⟨k, hk, rfl, hb⟩ := hrel
      by_cases hkn : k < n
      · obtain ⟨b, o, rfl, hcs⟩ := hseq.at_ (by omega)
        obtain ⟨⟨z, p1, p2⟩, hp⟩ : ∃ p, l[k]? = some p := ⟨_, List.getElem?_eq_getElem (by rw [HN.out]; exact hkn)⟩
        obtain ⟨i0, i1, i2⟩ := stepCells_at hp
        have hc0 : wr.cell? ⟨b, o + k * 3, none⟩ = some (.int .i64 z) := cell_since hb (by have := hcs _ _ i0; rwa [Nat.mul_comm] at this)
        have hc1 : wr.cell? ⟨b, o + k * 3 + 1, none⟩ = some (.string p1) := cell_since hb (by have := hcs _ _ i1; rwa [Nat.mul_comm, ← Nat.add_assoc] at this)
        have hc2 : wr.cell? ⟨b, o + k * 3 + 2, none⟩ = some (.string p2) := cell_since hb (by have := hcs _ _ i2; rwa [Nat.mul_comm, ← Nat.add_assoc] at this)
        have C := fun w => fits13 z (p1, p2) w
        have HC := Go.Lib.hid C
        have hb' : Since W (wr.alloc (.cells #[.int .i64 z, .string p1, .string p2] 42)) := hb.alloc _
        clear hcs i0 i1 i2 hseq C
        go_wp2_with fail
        refine (HC.out _).mono ?_
        rintro e w2 ⟨r, rfl, hs⟩
        have hs2 : Since W w2 := hb'.trans hs
        cases r
        · go_wp2
          exact ⟨rfl, _, by simp [results, Tryd.results6, go_sem], false, rfl, hs2⟩
        · go_wp2
          go_roundw
          case rel => exact ⟨k + 1, hkn, by go_num, hs2⟩
          case measure => simp [intOf]; omega
      · obtain rfl : k = n := by omega
        go_wp2
        exact ⟨rfl, _, by simp [results, Tryd.results6, go_sem], true, rfl, hb⟩

def NumPost (W : World) (e : Ending) (W' : World) : Prop := ∃ z : Int, e = .returned (.int .i64 z) ∧ Since W W'

theorem weight (u : Uid) (z : Int) (W : World) : Calls Tryd.prog 15 #[.agg #[.string u.1, .string u.2], .int .i64 z] W (NumPost W) := by
  obtain ⟨u1, u2⟩ := u
  by_cases h1 : z < (u1.size : Int)
  · go_enter Tryd.func15, Tryd.ntmps15
    go_wp2
    exact ⟨rfl, _, by simp [results, Tryd.results15, go_sem]; rfl, _, rfl, (Since.refl W).alloc _⟩
  · by_cases h2 : z < (u2.size : Int)
    · go_enter Tryd.func15, Tryd.ntmps15
      go_wp2
      exact ⟨rfl, _, by simp [results, Tryd.results15, go_sem]; rfl, _, rfl, (Since.refl W).alloc _⟩
    · go_enter Tryd.func15, Tryd.ntmps15
      go_wp2
      exact ⟨rfl, _, by simp [results, Tryd.results15, go_sem]; rfl, _, rfl, (Since.refl W).alloc _⟩

def FewPost (n : Nat) (W : World) (e : Ending) (W' : World) : Prop := ∃ b : Bool, e = .returned (.bool b) ∧ (b = true → n ≤ 200) ∧ Since W W'

set_option maxHeartbeats 400000 in
theorem few (l : List Step) (A : Option Addr) (cap : Nat) (W : World) (hn : l.length ≤ maxLen) (hseq : Seq W 3 A l.length (stepCells l)) :
    Calls Tryd.prog 7 #[.slice A l.length cap] W (FewPost l.length W) := by
  unfold maxLen at hn
  generalize hn0 : l.length = n at *
  have HN := Go.Lib.hid hn0
  clear hn0
  go_enter Tryd.func7, Tryd.ntmps7
  go_wp2
  go_loopw [3, 4] (fun zv iv wr => ∃ (k : Nat) (z : Int), k ≤ n ∧ iv = .int .i64 k ∧ zv = .int .i64 z ∧ Since W wr) (fun _ iv _ => n - (intOf iv).toNat)
  case atStart => exact ⟨0, 3000, Nat.zero_le _, rfl, rfl, Since.refl W⟩
  case round =>
    obtain ⟨k, z, hk, rfl, rfl, hb⟩ := hrel
    by_cases hgo : k < n ∧ (k : Int) ≤ 200 ∧ 0 ≤ z
    · obtain ⟨hkn, hk2, hz⟩ := hgo
      obtain ⟨b, o, rfl, hcs⟩ := hseq.at_ (by omega)
      obtain ⟨⟨y, p1, p2⟩, hp⟩ : ∃ p, l[k]? = some p := ⟨_, List.getElem?_eq_getElem (by rw [HN.out]; exact hkn)⟩
      obtain ⟨i0, i1, i2⟩ := stepCells_at hp
      have hc1 : wr.cell? ⟨b, o + k * 3 + 1, none⟩ = some (.string p1) := cell_since hb (by have := hcs _ _ i1; rwa [Nat.mul_comm, ← Nat.add_assoc] at this)
      have hc2 : wr.cell? ⟨b, o + k * 3 + 2, none⟩ = some (.string p2) := cell_since hb (by have := hcs _ _ i2; rwa [Nat.mul_comm, ← Nat.add_assoc] at this)
      have HC := Go.Lib.hid (fun z w => weight (p1, p2) z w)
      clear hcs i0 i1 i2 hseq
      go_wp2_with fail
      refine (HC.out _ _).mono ?_
      rintro e w2 ⟨r, rfl, hs⟩
      have hs2 : Since W w2 := hb.trans hs
      go_wp2
      go_roundw
      case rel => exact ⟨k + 1, r, hkn, by go_num, rfl, hs2⟩
      case measure => simp [intOf]; omega
    · by_cases a3 : 0 ≤ z
      · by_cases a4 : (n : Int) ≤ 200
        · by_cases a1 : (k : Int) < (n : Int)
          · exfalso; omega
          · go_wp2
            exact ⟨rfl, _, by simp [results, Tryd.results7, go_sem], true, rfl, fun _ => by omega, hb⟩
        · by_cases a1 : (k : Int) < (n : Int) <;> by_cases a2 : (k : Int) ≤ 200
          · exfalso; omega
          all_goals
            go_wp2
            exact ⟨rfl, _, by simp [results, Tryd.results7, go_sem], false, rfl, (fun h => by cases h), hb⟩
      · by_cases a1 : (k : Int) < (n : Int) <;> by_cases a2 : (k : Int) ≤ 200 <;> by_cases a4 : (n : Int) ≤ 200
        all_goals
          go_wp2
          exact ⟨rfl, _, by simp [results, Tryd.results7, go_sem], false, rfl, (fun h => by cases h), hb⟩

end Go.Proofs.YtgliaglnblhinaaDoor.Sets

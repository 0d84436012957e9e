/-
  The law's small helpers over a row of strings.
  Conditions: sizes.
-/
import Derived.Test.YtgliaglnblhinaaPatt
namespace Go.Proofs.Ytgliaglnblhinaa
open Go.ChangeShapes Go.WideShapes Go.ChangeAt Go.RowKit Pat

def Small (ps : List Bs) : Prop := 1 ≤ ps.length ∧ ps.length ≤ 12 ∧ ∀ v ∈ ps, v.length ≤ 20
def AnyPost (W : World) (e : Ending) (W' : World) : Prop := ∃ b : Bool, e = .returned (.bool b) ∧ W' = W
def SmallPost (ps : List Bs) (W : World) (e : Ending) (W' : World) : Prop := ∃ b : Bool, e = .returned (.bool b) ∧ (b = true → Small ps) ∧ W' = W

theorem bs_size (p : Bs) : (bs p).size = p.length := by simp [bs, ByteArray.size]

set_option maxHeartbeats 400000 in
theorem fits_any (ps : List Bs) (A : Option Addr) (cap : Nat) (W : World) (hn : ps.length ≤ maxLen)
    (hseq : Seq W 1 A ps.length (ps.map fun p => .string (bs p))) :
    Calls Try.prog 9 #[.slice A ps.length cap] W (AnyPost W) := by
  unfold maxLen at hn
  generalize hn0 : ps.length = n at *
  have HN := Go.Lib.hid hn0
  clear hn0
  go_enter Try.func9, Try.ntmps9
  by_cases hbig : (2147483647 : Int) < (n : Int)
  · go_wp2
    exact ⟨rfl, _, by simp [results, Try.results9, Try.results10, go_sem], false, rfl, rfl⟩
  · go_wp2
    go_loopw [10] (fun iv wr => ∃ k : Nat, k ≤ n ∧ iv = .int .i64 k ∧ wr = W) (fun iv _ => n - (intOf iv).toNat)
    case atStart => exact ⟨0, Nat.zero_le _, rfl, rfl⟩
    case round =>
      obtain ⟨k, hk, rfl, rfl⟩ := hrel
      by_cases hkn : k < n
      · obtain ⟨b, o, rfl, hcs⟩ := hseq.at_ (by omega)
        obtain ⟨p, hp⟩ : ∃ p, ps[k]? = some p := ⟨_, List.getElem?_eq_getElem (by rw [HN.out]; exact hkn)⟩
        have hc0 : wr.cell? ⟨b, o + k, none⟩ = some (.string (bs p)) := hcs k _ (by simp [hp])
        by_cases hb : (2147483647 : Int) < ((bs p).size : Int)
        · go_wp2
          exact ⟨rfl, _, by simp [results, Try.results9, Try.results10, go_sem], false, rfl, rfl⟩
        · go_wp2
          go_roundw
          case rel => exact ⟨k + 1, hkn, by go_num, trivial⟩
          case measure => simp [intOf]; omega
      · obtain rfl : k = n := by omega
        go_wp2
        exact ⟨rfl, _, by simp [results, Try.results9, Try.results10, go_sem], true, rfl, rfl⟩

set_option maxHeartbeats 400000 in
theorem small_any (ps : List Bs) (A : Option Addr) (cap : Nat) (W : World) (hn : ps.length ≤ maxLen)
    (hseq : Seq W 1 A ps.length (ps.map fun p => .string (bs p))) :
    Calls Try.prog 10 #[.slice A ps.length cap] W (SmallPost ps W) := by
  unfold maxLen at hn
  generalize hn0 : ps.length = n at *
  have HN := Go.Lib.hid hn0
  clear hn0
  go_enter Try.func10, Try.ntmps10
  go_wp2
  go_loopw [3] (fun iv wr => ∃ k : Nat, k ≤ n ∧ iv = .int .i64 k ∧ (∀ p ∈ ps.take k, p.length ≤ 20) ∧ wr = W) (fun iv _ => n - (intOf iv).toNat)
  case atStart => exact ⟨0, Nat.zero_le _, rfl, by simp, rfl⟩
  case round =>
    obtain ⟨k, hk, rfl, hall, rfl⟩ := hrel
    by_cases hkn : k < n
    · obtain ⟨b, o, rfl, hcs⟩ := hseq.at_ (by omega)
      obtain ⟨p, hp⟩ : ∃ p, ps[k]? = some p := ⟨_, List.getElem?_eq_getElem (by rw [HN.out]; exact hkn)⟩
      have hc0 : wr.cell? ⟨b, o + k, none⟩ = some (.string (bs p)) := hcs k _ (by simp [hp])
      by_cases hb : (20 : Int) < ((bs p).size : Int)
      · go_wp2
        exact ⟨rfl, _, by simp [results, Try.results9, Try.results10, go_sem], false, rfl, (fun h => by cases h), rfl⟩
      · have hl : p.length ≤ 20 := by rw [bs_size] at hb; omega
        have hrel : ∀ q ∈ ps.take (k + 1), q.length ≤ 20 := by
          intro q hq
          rw [List.take_add_one, hp] at hq
          rcases List.mem_append.1 hq with h | h
          · exact hall q h
          · simp at h; rw [h]; exact hl
        have HREL := Go.Lib.hid hrel
        clear hrel hall
        go_wp2
        go_roundw
        case rel => exact ⟨k + 1, hkn, by go_num, HREL.out, trivial⟩
        case measure => simp [intOf]; omega
    · obtain rfl : k = n := by omega
      have hall' : ∀ p ∈ ps, p.length ≤ 20 := by
        rw [List.take_of_length_le (by rw [HN.out]; exact Nat.le_refl _)] at hall; exact hall
      have HALL := Go.Lib.hid hall'
      clear hall hall'
      by_cases h1 : (1 : Int) ≤ (k : Int)
      · by_cases h2 : (k : Int) ≤ (12 : Int)
        · go_wp2
          exact ⟨rfl, _, by simp [results, Try.results9, Try.results10, go_sem], true, rfl, fun _ => ⟨by rw [HN.out]; omega, by rw [HN.out]; omega, HALL.out⟩, rfl⟩
        · go_wp2
          exact ⟨rfl, _, by simp [results, Try.results9, Try.results10, go_sem], false, rfl, (fun h => by cases h), rfl⟩
      · go_wp2
        exact ⟨rfl, _, by simp [results, Try.results9, Try.results10, go_sem], false, rfl, (fun h => by cases h), rfl⟩

end Go.Proofs.Ytgliaglnblhinaa

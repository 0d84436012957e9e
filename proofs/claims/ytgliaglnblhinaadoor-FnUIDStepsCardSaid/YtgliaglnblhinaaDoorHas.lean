/-
  The reference's set of identifiers: is one among them.
  Conditions: sizes.
-/
import Derived.Test.YtgliaglnblhinaaDoorWords
import Derived.WalkKit
import Derived.ProofKit
import Derived.Lib.Hide
namespace Go.Proofs.YtgliaglnblhinaaDoor.Sets
open Go Go.ChangeShapes Go.WideShapes Go.ChangeAt Go.RowKit

abbrev Uid := ByteArray × ByteArray
def uidCells (us : List Uid) : List Value := us.flatMap fun u => [.string u.1, .string u.2]
theorem uidCells_at {us : List Uid} {k : Nat} {u : Uid} (h : us[k]? = some u) : (uidCells us)[2 * k]? = some (.string u.1) ∧ (uidCells us)[2 * k + 1]? = some (.string u.2) := by
  induction us generalizing k with
  | nil => simp at h
  | cons x us ih =>
    cases k with
    | zero => simp at h; subst h; exact ⟨rfl, rfl⟩
    | succ k =>
      simp at h
      have := ih h
      rw [show 2 * (k + 1) = 2 * k + 1 + 1 by omega]
      exact this

def HasPost (us : List Uid) (u : Uid) (W : World) (e : Ending) (W' : World) : Prop := ∃ b : Bool, e = .returned (.bool b) ∧ (b = true ↔ u ∈ us) ∧ Since W W'

set_option maxHeartbeats 400000 in
theorem has_any (us : List Uid) (u : Uid) (A : Option Addr) (cap : Nat) (W : World) (hn : us.length ≤ maxLen) (hseq : Seq W 2 A us.length (uidCells us)) :
    Calls Tryd.prog 21 #[.slice A us.length cap, .agg #[.string u.1, .string u.2]] W (HasPost us u W) := by
  unfold maxLen at hn
  generalize hn0 : us.length = n at *
  have HN := Go.Lib.hid hn0
  clear hn0
  obtain ⟨u1, u2⟩ := u
  go_enter Tryd.func21, Tryd.ntmps21
  go_wp2
  go_loopw [9] (fun iv wr => ∃ k : Nat, k ≤ n ∧ iv = .int .i64 k ∧ (u1, u2) ∉ us.take k ∧ Since (W.alloc (.cells #[.string u1, .string u2] 40)) wr) (fun iv _ => n - (intOf iv).toNat)
  case atStart => exact ⟨0, Nat.zero_le _, rfl, by simp, Since.refl _⟩
  case round =>
    obtain ⟨k, hk, rfl, hall, hb⟩ := hrel
    by_cases hkn : k < n
    · obtain ⟨b, o, rfl, hcs⟩ := hseq.at_ (by omega)
      obtain ⟨⟨p1, p2⟩, hp⟩ : ∃ p, us[k]? = some p := ⟨_, List.getElem?_eq_getElem (by rw [HN.out]; exact hkn)⟩
      obtain ⟨i1, i2⟩ := uidCells_at hp
      have hc0 : wr.cell? ⟨b, o + k * 2, none⟩ = some (.string p1) := cell_since hb (cell_since ((Since.refl W).alloc _) (by have := hcs _ _ i1; rwa [Nat.mul_comm] at this))
      have hc1 : wr.cell? ⟨b, o + k * 2 + 1, none⟩ = some (.string p2) := cell_since hb (cell_since ((Since.refl W).alloc _) (by have := hcs _ _ i2; rwa [Nat.mul_comm, ← Nat.add_assoc] at this))
      have hu0 : wr.cell? ⟨W.heap.size, 0, none⟩ = some (.string u1) := cell_since hb (by rw [World.cell?_alloc_at _ _ _ _ rfl]; rfl)
      have hu1 : wr.cell? ⟨W.heap.size, 1, none⟩ = some (.string u2) := cell_since hb (by rw [World.cell?_alloc_at _ _ _ _ rfl]; rfl)
      have HCS := Go.Lib.hid hcs
      clear hcs i1 i2 hseq
      have hv0 : (wr.alloc (.cells #[.string p1, .string p2] 40)).cell? ⟨W.heap.size, 0, none⟩ = some (.string u1) := cell_since ((Since.refl wr).alloc _) hu0
      have hv1 : (wr.alloc (.cells #[.string p1, .string p2] 40)).cell? ⟨W.heap.size, 1, none⟩ = some (.string u2) := cell_since ((Since.refl wr).alloc _) hu1
      have hs' : Since W (wr.alloc (.cells #[.string p1, .string p2] 40)) := ((Since.refl W).alloc _).trans (hb.alloc _)
      have hb' := hb.alloc (.cells #[.string p1, .string p2] 40)
      by_cases he : p1 = u1 ∧ p2 = u2
      · obtain ⟨rfl, rfl⟩ := he
        have hin : (p1, p2) ∈ us := List.mem_of_getElem? hp
        have HIN := Go.Lib.hid hin
        clear hall hin hp
        go_wp2
        exact ⟨rfl, _, by simp [results, Tryd.results21, go_sem], true, rfl, iff_of_true rfl HIN.out, hs'⟩
      · have hrel : (u1, u2) ∉ us.take (k + 1) := by
          rw [List.take_add_one, hp]
          intro h
          rcases List.mem_append.1 h with h | h
          · exact hall h
          · simp at h; exact he ⟨h.1.symm, h.2.symm⟩
        have HREL := Go.Lib.hid hrel
        have he1 : ¬ (p1.toList = u1.toList ∧ p2.toList = u2.toList) := by
          rintro ⟨a, b⟩
          rw [ByteArray.toList_eq, ByteArray.toList_eq] at a b
          exact he ⟨ByteArray.ext (Array.toList_inj.1 a), ByteArray.ext (Array.toList_inj.1 b)⟩
        clear hrel hall hp
        go_wp2
        all_goals first | (exfalso; exact he1 ⟨by assumption, by assumption⟩) | exact ⟨⟨k + 1, hkn, by go_num, HREL.out, hb'⟩, by simp [intOf]; omega⟩
    · obtain rfl : k = n := by omega
      rw [List.take_of_length_le (by rw [HN.out]; exact Nat.le_refl _)] at hall
      have HALL := Go.Lib.hid hall
      clear hall
      have hs' : Since W wr := ((Since.refl W).alloc _).trans hb
      go_wp2
      exact ⟨rfl, _, by simp [results, Tryd.results21, go_sem], false, rfl, iff_of_false Bool.false_ne_true HALL.out, hs'⟩

end Go.Proofs.YtgliaglnblhinaaDoor.Sets

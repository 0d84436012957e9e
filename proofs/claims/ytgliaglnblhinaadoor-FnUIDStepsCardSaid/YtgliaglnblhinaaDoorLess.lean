/-
  The reference's set of identifiers: all but one of them.
  Conditions: sizes.
-/
import Derived.Test.YtgliaglnblhinaaDoorHas
import Derived.Deep.DeepMust
namespace Go.Proofs.YtgliaglnblhinaaDoor.Sets
open Go Go.ChangeShapes Go.WideShapes Go.ChangeAt Go.RowKit

theorem info40 : (Tryd.prog.info? 40).map (fun i => (i.zero, i.size, i.bytes)) = some (some (.agg #[.string ⟨#[]⟩, .string ⟨#[]⟩]), 2, 32) := by kernel_rfl
theorem lit_seq (w : World) (cs : Array Value) (t : TypeId) {n size : Nat} (h : cs.size = n * size := by rfl) : Seq (w.alloc (.cells cs t)) size (some ⟨w.heap.size, 0, none⟩) n cs.toList := by
  refine ⟨by simpa using h, .inr ⟨w.heap.size, 0, rfl, fun j u hu => ?_⟩⟩
  rw [World.cell?_alloc_at _ _ _ _ rfl, Nat.zero_add]
  simpa using hu
theorem own_slice {w : World} {base e size n : Nat} {v : Value} {xs : List Value} (h : w.ownsRow base e size v n xs) : ∃ A c, v = .slice A n c ∧ (A = none → n = 0 ∧ c = 0) := by
  rcases h.2 with ⟨rfl, rfl⟩ | ⟨g, cap, cur, rfl, _⟩
  · exact ⟨_, _, rfl, fun _ => ⟨rfl, rfl⟩⟩
  · exact ⟨_, _, rfl, fun h => by cases h⟩

def less (us : List Uid) (u : Uid) : List Uid := us.filter fun x => !(x.1.toList == u.1.toList && x.2.toList == u.2.toList)
theorem less_len (us : List Uid) (u : Uid) : (less us u).length ≤ us.length := List.length_filter_le _ _
theorem less_snoc {us : List Uid} {k : Nat} {x u : Uid} (h : us[k]? = some x) : less (us.take (k + 1)) u = less (us.take k) u ++ (if x.1.toList = u.1.toList ∧ x.2.toList = u.2.toList then [] else [x]) := by
  rw [List.take_add_one, h]
  simp only [less, List.filter_append, Option.toList_some]
  by_cases h1 : x.1.toList = u.1.toList <;> by_cases h2 : x.2.toList = u.2.toList <;> simp [h1, h2]
theorem uidCells_append (a b : List Uid) : uidCells (a ++ b) = uidCells a ++ uidCells b := by simp [uidCells]

def LRel (us : List Uid) (u : Uid) (n : Nat) (W : World) (ov iv : Value) (wr : World) : Prop :=
  ∃ k : Nat, k ≤ n ∧ iv = .int .i64 k ∧ wr.ownsRow (W.heap.size + 1) 40 2 ov (less (us.take k) u).length (uidCells (less (us.take k) u)) ∧ Since (W.alloc (.cells #[.string u.1, .string u.2] 40)) wr
def LessPost (us : List Uid) (u : Uid) (W : World) (e : Ending) (W' : World) : Prop :=
  ∃ A n c, e = .returned (.slice A n c) ∧ W'.ownsRow W.heap.size 40 2 (.slice A n c) (less us u).length (uidCells (less us u)) ∧ Since W W'

set_option maxHeartbeats 400000 in
theorem less_any (us : List Uid) (u : Uid) (A : Option Addr) (cap : Nat) (W : World) (hn : us.length ≤ 1000) (hseq : Seq W 2 A us.length (uidCells us)) :
    Calls Tryd.prog 22 #[.slice A us.length cap, .agg #[.string u.1, .string u.2]] W (LessPost us u W) := by
  obtain ⟨i0, hi, hz0, hz1, hz2⟩ := info_parts info40
  generalize hn0 : us.length = n at *
  have HN := Go.Lib.hid hn0
  clear hn0
  obtain ⟨u1, u2⟩ := u
  go_enter Tryd.func22, Tryd.ntmps22
  go_wp2
  go_loopw [5, 10] (fun ov iv wr => LRel us (u1, u2) n W ov iv wr) (fun _ iv _ => n - (intOf iv).toNat)
  case atStart => exact ⟨0, Nat.zero_le _, rfl, World.ownsRow_nil _ _ _ _, Since.refl _⟩
  case round =>
    obtain ⟨k, hk, rfl, hown, hb⟩ := hrel
    have hwsz : W.heap.size + 1 ≤ wr.heap.size := by have := hb.size; simpa using this
    have hll : (less (us.take k) (u1, u2)).length ≤ k := Nat.le_trans (less_len _ _) (by rw [List.length_take]; omega)
    obtain ⟨A', c', rfl, hnil⟩ := own_slice hown
    by_cases hkn : k < n
    · obtain ⟨b, o, rfl, hcs⟩ := hseq.at_ (by omega)
      obtain ⟨⟨p1, p2⟩, hp⟩ : ∃ p, us[k]? = some p := ⟨_, List.getElem?_eq_getElem (by rw [HN.out]; exact hkn)⟩
      obtain ⟨i1, i2⟩ := uidCells_at hp
      have hc0 : wr.cell? ⟨b, o + k * 2, none⟩ = some (.string p1) := cell_since hb (cell_since ((Since.refl W).alloc _) (by have := hcs _ _ i1; rwa [Nat.mul_comm] at this))
      have hc1 : wr.cell? ⟨b, o + k * 2 + 1, none⟩ = some (.string p2) := cell_since hb (cell_since ((Since.refl W).alloc _) (by have := hcs _ _ i2; rwa [Nat.mul_comm, ← Nat.add_assoc] at this))
      have hv0 : (wr.alloc (.cells #[.string p1, .string p2] 40)).cell? ⟨W.heap.size, 0, none⟩ = some (.string u1) := cell_since ((Since.refl wr).alloc _) (cell_since hb (by rw [World.cell?_alloc_at _ _ _ _ rfl]; rfl))
      have hv1 : (wr.alloc (.cells #[.string p1, .string p2] 40)).cell? ⟨W.heap.size, 1, none⟩ = some (.string u2) := cell_since ((Since.refl wr).alloc _) (cell_since hb (by rw [World.cell?_alloc_at _ _ _ _ rfl]; rfl))
      have hb' := hb.alloc (.cells #[.string p1, .string p2] 40)
      have hown' := hown.alloc (.cells #[.string p1, .string p2] 40)
      have hsn := less_snoc (u := (u1, u2)) hp
      clear hcs i1 i2 hseq
      by_cases h1 : p1.toList = u1.toList
      · by_cases h2 : p2.toList = u2.toList
        · rw [if_pos ⟨h1, h2⟩, List.append_nil] at hsn
          have hrel : LRel us (u1, u2) n W (.slice A' (less (us.take k) (u1, u2)).length c') (.int .i64 ((k : Int) + 1)) (wr.alloc (.cells #[.string p1, .string p2] 40)) :=
            ⟨k + 1, hkn, by go_num, by rw [hsn]; exact hown', hb'⟩
          have HREL := Go.Lib.hid hrel
          clear hrel hown hown' hsn hp hb hb' hnil
          go_wp2
          go_roundw
          case rel => exact HREL.out
          case measure => simp [intOf]; omega
        · have hne : ¬ (p1.toList = u1.toList ∧ p2.toList = u2.toList) := by rintro ⟨a, b⟩; first | exact h2 b | exact h1 a
          rw [if_neg hne] at hsn
          clear hp hnil hne
          go_wp2_with (first | (at_builtin; go_must (refine wpList_append_seq _ rfl (.tmp 17) (.tmp 19) 55 rfl (W.heap.size + 1) 40 i0 (.agg #[.string ⟨#[]⟩, .string ⟨#[]⟩]) 2 32 Tryd.underlying55 hi hz0 hz1 hz2 rfl (by decide) _ _ _ rfl (hown'.alloc _) (some ⟨wr.heap.size + 1, 0, none⟩) 1 1 [.string p1, .string p2] rfl (by simpa using lit_seq (wr.alloc (.cells #[.string p1, .string p2] 40)) #[.string p1, .string p2] 40 (n := 1) (size := 2) rfl) (by simp [Value.oneCell']) (by unfold maxLen; omega) (by omega) (by simp; omega) (by simp) ?_); intro v2 w2 hown2 hgr2 hbl2) | go_in)
          have hrel : LRel us (u1, u2) n W v2 (.int .i64 ((k : Int) + 1)) w2 := by
            refine ⟨k + 1, hkn, by go_num, ?_, (hb'.alloc _).grown hgr2 (fun j hj => by have := (hown.lt j hj).1; simpa using this)⟩
            rw [hsn, uidCells_append, List.length_append]
            exact hown2
          have HREL := Go.Lib.hid hrel
          clear hrel hown hown' hsn hb hb' hown2 hgr2 hbl2
          go_roundw
          case rel => exact HREL.out
          case measure => simp [intOf]; omega
      · have hne : ¬ (p1.toList = u1.toList ∧ p2.toList = u2.toList) := by rintro ⟨a, b⟩; first | exact h2 b | exact h1 a
        rw [if_neg hne] at hsn
        clear hp hnil hne
        go_wp2_with (first | (at_builtin; go_must (refine wpList_append_seq _ rfl (.tmp 17) (.tmp 19) 55 rfl (W.heap.size + 1) 40 i0 (.agg #[.string ⟨#[]⟩, .string ⟨#[]⟩]) 2 32 Tryd.underlying55 hi hz0 hz1 hz2 rfl (by decide) _ _ _ rfl (hown'.alloc _) (some ⟨wr.heap.size + 1, 0, none⟩) 1 1 [.string p1, .string p2] rfl (by simpa using lit_seq (wr.alloc (.cells #[.string p1, .string p2] 40)) #[.string p1, .string p2] 40 (n := 1) (size := 2) rfl) (by simp [Value.oneCell']) (by unfold maxLen; omega) (by omega) (by simp; omega) (by simp) ?_); intro v2 w2 hown2 hgr2 hbl2) | go_in)
        have hrel : LRel us (u1, u2) n W v2 (.int .i64 ((k : Int) + 1)) w2 := by
          refine ⟨k + 1, hkn, by go_num, ?_, (hb'.alloc _).grown hgr2 (fun j hj => by have := (hown.lt j hj).1; simpa using this)⟩
          rw [hsn, uidCells_append, List.length_append]
          exact hown2
        have HREL := Go.Lib.hid hrel
        clear hrel hown hown' hsn hb hb' hown2 hgr2 hbl2
        go_roundw
        case rel => exact HREL.out
        case measure => simp [intOf]; omega
    · obtain rfl : k = n := by omega
      have htk : us.take k = us := List.take_of_length_le (by rw [HN.out]; exact Nat.le_refl _)
      have hs' : Since W wr := ((Since.refl W).alloc _).trans hb
      have hown3 : wr.ownsRow W.heap.size 40 2 (.slice A' (less (us.take k) (u1, u2)).length c') (less us (u1, u2)).length (uidCells (less us (u1, u2))) := by
        rw [htk] at hown ⊢
        refine ⟨hown.1, ?_⟩
        rcases hown.2 with h | ⟨g, cc, cur, a1, a2, a3⟩
        · exact .inl h
        · exact .inr ⟨g, cc, cur, a1, by omega, a3⟩
      have H3 := Go.Lib.hid hown3
      clear hown hown3 hnil htk
      go_wp2
      exact ⟨rfl, _, by simp [results, Tryd.results22, go_sem], _, _, _, rfl, H3.out, hs'⟩

end Go.Proofs.YtgliaglnblhinaaDoor.Sets

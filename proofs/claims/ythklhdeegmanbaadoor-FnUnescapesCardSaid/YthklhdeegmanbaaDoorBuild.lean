/-
  strings.Builder's WriteRune over this program, walked.
  Conditions: sizes.
-/
import Derived.Test.YthklhdeegmanbaaDoorWords
import Derived.Test.YthklhdeegmanbaaDoorShelf
import Derived.Test.YthklhdeegmanbaaDoorPlain2
import Derived.WalkKit
import Derived.ProofKit
import Derived.Lib.Hide
namespace Go.Proofs.YthklhdeegmanbaaDoor.Esc
open Go Go.ChangeShapes Go.WideShapes Go.ChangeAt Go.RowKit

abbrev Build (B b : Nat) (bs : List Value) (w : World) : Prop := Lib.IsBuilderF 47 5 B b bs w

def CheckPost (B b : Nat) (bs : List Value) (W : World) (e : Ending) (W' : World) : Prop :=
  e = .returned (.tuple #[]) ∧ (Lib.BuilderAtF 47 5 B b (.pointer (some ⟨b, 0, none⟩)) bs W' ∧ Below B W W')

set_option maxHeartbeats 400000 in
theorem check_any (B b : Nat) (bs : List Value) (w : World) (h : Build B b bs w) : Calls Tryd.prog 27 #[.pointer (some ⟨b, 0, none⟩)] w (CheckPost B b bs w) := by
  rcases h with h | h
  · have c0 := h.cell0
    have hsh := h.shape
    have hfz := h.frozen0
    have hend : CheckPost B b bs w (.returned (.tuple #[])) (w.setCell ⟨b, 0, none⟩ (.pointer (some ⟨b, 0, none⟩))) :=
      ⟨rfl, h.used _, (Below.refl B w).setCell (p := ⟨b, 0, none⟩) h.1 _⟩
    obtain ⟨j, hj, hjs⟩ : ∃ j, Tryd.prog.info? 47 = some j ∧ j.size = 2 := by
      obtain ⟨j, hj, hjs⟩ := Option.map_eq_some_iff.1 (show (Tryd.prog.info? 47).map (·.size) = some 2 by kernel_rfl)
      exact ⟨j, hj, hjs⟩
    have HE := Go.Lib.hid hend
    clear hend h
    go_enter Tryd.func27, Tryd.ntmps27
    go_wp2
    rw [Lib.run_to_unsafe w ⟨b, 0, none⟩ Tryd.underlying45 Tryd.underlying64 hj (by rw [hjs]; decide) hsh (Nat.zero_lt_succ 1)]
    simp only [Result.andThen]
    rw [Oper.upon_value]
    go_wp2
    rw [run_callFunc_extern Tryd.func32 (by kernel_rfl) (by kernel_rfl) (by kernel_rfl) (e := Extern.AbiNoEscape.same) (by kernel_rfl)]
    rw [Lib.run_noEscape]
    simp only [Result.andThen]
    rw [Oper.upon_value]
    go_wp2
    rw [Lib.run_from_unsafe w ⟨b, 0, none⟩ Tryd.underlying64 Tryd.underlying45 hj hsh (by kernel_rfl)]
    simp only [Result.andThen]
    rw [Oper.upon_value]
    go_wp2
    exact ⟨rfl, _, by simp [results, Tryd.results27, go_sem], HE.out⟩
  · have c0 := h.cell0
    have hend : CheckPost B b bs w (.returned (.tuple #[])) w := ⟨rfl, h, Below.refl B _⟩
    obtain ⟨j, hj, _⟩ : ∃ j, Tryd.prog.info? 47 = some j ∧ j.size = 2 := by
      obtain ⟨j, hj, hjs⟩ := Option.map_eq_some_iff.1 (show (Tryd.prog.info? 47).map (·.size) = some 2 by kernel_rfl)
      exact ⟨j, hj, hjs⟩
    have HE := Go.Lib.hid hend
    clear hend h
    go_enter Tryd.func27, Tryd.ntmps27
    go_wp2
    rw [Lib.run_neq_ptr_same w _ Tryd.underlying45 hj]
    go_wp2
    exact ⟨rfl, _, by simp [results, Tryd.results27, go_sem], HE.out⟩

def RunePost (B b : Nat) (bs : List Value) (r : Int) (W : World) (e : Ending) (W' : World) : Prop :=
  (∃ v, e = .returned v) ∧ (Build B b (bs ++ Lib.runeCells r) W' ∧ Below B W W')

set_option maxHeartbeats 1000000 in
theorem rune_any (B b : Nat) (bs : List Value) (r : Int) (hr0 : -2147483648 ≤ r) (hr1 : r ≤ 2147483647) (w : World) (h : Build B b bs w) (hlen : bs.length + 4 ≤ 140737488355328) (hBw : B ≤ w.heap.size) :
    Calls Tryd.prog 18 #[.pointer (some ⟨b, 0, none⟩), .int .i32 r] w (RunePost B b bs r w) := by
  have hk4 := Lib.runeCells_le r
  go_enter Tryd.func18, Tryd.ntmps18
  go_wp2_with fail
  refine (check_any B b bs _ h).mono ?_
  rintro e w1 ⟨rfl, h1, hb1⟩
  obtain ⟨hB, v, hbk, hown, hne⟩ := h1
  obtain ⟨ao, cap, rfl⟩ : ∃ ao cap, v = .slice ao bs.length cap := by
    rcases hown.2 with ⟨hv, h0⟩ | ⟨g, cap, cur, fz, hv, _⟩
    · exact ⟨none, 0, by rw [hv, h0]⟩
    · exact ⟨_, _, hv⟩
  have c0 : w1.cell? ⟨b, 0, none⟩ = some (.pointer (some ⟨b, 0, none⟩)) := by rw [Lib.cell_of_heap hbk]; rfl
  have c1 : w1.cell? ⟨b, 1, none⟩ = some (.slice ao bs.length cap) := by rw [Lib.cell_of_heap hbk]; rfl
  go_wp2_with fail
  refine (Tryd.utf8_AppendRune_row B _ bs.length bs r hr0 hr1 _ hown hlen (by have := hb1.size; omega)).mono ?_
  rintro e w2 ⟨v', rfl, hown', o, hgrow⟩
  have hlt : b < w1.heap.size := by
    rcases Nat.lt_or_ge b w1.heap.size with h' | h'
    · exact h'
    · simp [Array.getElem?_eq_none h'] at hbk
  have hb2 : w2.heap[b]? = some (.cells #[.pointer (some ⟨b, 0, none⟩), .slice ao bs.length cap] 47 (0, 0)) := by
    rw [hgrow.block b (by simp; omega) (fun e => hne e.symm), (MapKept.heap_alloc w1 _).2 b hlt]
    exact hbk
  have d0 : w2.cell? ⟨b, 0, none⟩ = some (.pointer (some ⟨b, 0, none⟩)) := by rw [Lib.cell_of_heap hb2]; rfl
  have d1 : w2.cell? ⟨b, 1, none⟩ = some (.slice ao bs.length cap) := by rw [Lib.cell_of_heap hb2]; rfl
  have f1 : w2.frozen? ⟨b, 1, none⟩ = false := Lib.frozen_of_heap hb2 1
  obtain ⟨g, cap', rfl⟩ : ∃ g cap', v' = .slice (some ⟨g, 0, none⟩) (bs.length + (Lib.runeCells r).length) cap' := by
    rcases hown'.2 with ⟨_, h0⟩ | ⟨g, cap', cur, fz, hv, _⟩
    · omega
    · exact ⟨g, cap', hv⟩
  have q1 := Lib.BuilderAtF.put (T := 47) (e := 5) hB hb2 (bs' := bs ++ Lib.runeCells r) (by simpa using hown') (by decide)
  have q2 : Below B w (w2.setCell ⟨b, 1, none⟩ (.slice (some ⟨g, 0, none⟩) (bs.length + (Lib.runeCells r).length) cap')) := ((hb1.alloc (by have := hb1.size; omega) _).grown hgrow (by have := hb1.size; simp; omega) (fun k hk => (hown.lt k hk).1)).setCell (p := ⟨b, 1, none⟩) hB _
  have Q1 := Go.Lib.hid q1
  have Q2 := Go.Lib.hid q2
  clear q1 q2 hown hown' hgrow hbk hb2 hb1
  go_wp2
  exact ⟨rfl, _, by simp [results, Tryd.results18, go_sem]; rfl, ⟨_, rfl⟩, .inr Q1.out, Q2.out⟩

end Go.Proofs.YthklhdeegmanbaaDoor.Esc

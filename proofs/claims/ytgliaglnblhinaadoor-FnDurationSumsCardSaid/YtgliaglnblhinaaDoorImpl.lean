/-
  The thin package's ParseDuration returns the milliseconds of a text that is read to its end.
  Conditions: as at ParseDuration.
-/
import Derived.Test.YtgliaglnblhinaaDoorWalkP
import Derived.Deep.RegionHeld3
namespace Go.Proofs.YtgliaglnblhinaaDoor
open Go.ChangeShapes Go.WideShapes Go.ChangeAt Go.RowKit Go.Maps Go.WideMaps

theorem millis24 (n : Int) (w : World) :
    Calls Tryd.prog 24 #[.agg #[.int .i64 n]] w fun e w' => e = .returned (.int .i64 n) ∧ Below w.heap.size w w' := by
  go_enter Tryd.func24, Tryd.ntmps24
  go_wp2
  go_ret
  exact ⟨rfl, (Below.refl _ _).alloc (Nat.le_refl _) _⟩

theorem keepOne {W w' : World} {b : Nat} {v : Value} (h : Below W.heap.size W w') (hc : W.cell? ⟨b, 0, none⟩ = some v) :
    w'.cell? ⟨b, 0, none⟩ = some v := (h.cell (p := ⟨b, 0, none⟩) (World.block_lt_of_cell? W _ hc)).trans hc

def Since (W0 w : World) : Prop := Below W0.heap.size W0 w
theorem Since.step {W0 w w' : World} (h : Since W0 w) (k : Below w.heap.size w w') : Since W0 w' := h.trans (k.mono h.size)

theorem keepTwo {W0 W w' : World} {b : Nat} {v : Value} (h : Below W.heap.size W w') (hc : W.cell? ⟨b, 0, none⟩ = some v) (hs : Since W0 W) :
    w'.cell? ⟨b, 0, none⟩ = some v ∧ Since W0 w' := ⟨keepOne h hc, hs.step h⟩

theorem impl_parse (s : ByteArray) (x : Int) (W : World) (h : ∀ w, Calls Tryd.prog 23 #[.string s] w (ParsePost x w)) :
    Calls Tryd.prog 13 #[.string s] W fun e w' => e = .returned (.tuple #[.int .i64 x, .bool true]) ∧ Since W w' := by
  have H := Go.Lib.hid h
  clear h
  go_enter Tryd.func13, Tryd.ntmps13
  go_wp2_with (go_at_call 23; refine (H.out _).mono ?_; rintro e w1 ⟨rfl, hb1⟩)
  have hc : (w1.alloc (.cells #[.int .i64 x] 60)).cell? ⟨w1.heap.size, 0, none⟩ = some (.int .i64 x) := by
    rw [World.cell?_alloc_at _ _ _ _ rfl]; rfl
  have hs : Since W (w1.alloc (.cells #[.int .i64 x] 60)) := Since.step hb1 ((Below.refl _ _).alloc (Nat.le_refl _) _)
  generalize w1.alloc (.cells #[.int .i64 x] 60) = W2 at *
  go_region_held3 (fun w' => w'.cell? ⟨w1.heap.size, 0, none⟩ = some (.int .i64 x) ∧ Since W w') (first | exact keepTwo ((Below.refl _ W2).drew) hc hs | (go_split_ands; exact keepTwo (by assumption) (by assumption) (by assumption)))
    (first | (go_at_call 24; refine (millis24 x _).mono ?_; rintro e w' ⟨rfl, hg⟩))
  go_wp2
  go_split_ands
  go_ret2
  exact ⟨rfl, by assumption⟩

theorem units_any (W : World) : Calls Tryd.prog 11 #[] W fun e w' => e = .returned (.tuple #[.agg #[.string ⟨#[100]⟩, .string ⟨#[104]⟩, .string ⟨#[109]⟩, .string ⟨#[115]⟩, .string ⟨#[109, 115]⟩],
    .agg #[.int .i64 86400000, .int .i64 3600000, .int .i64 60000, .int .i64 1000, .int .i64 1]]) ∧ Since W w' := by
  go_enter Tryd.func11, Tryd.ntmps11
  go_wp2
  simp [bodyPost, results, Tryd.results11, go_sem]
  exact ((Below.refl _ _).alloc (Nat.le_refl _) _).alloc (by simp) _

end Go.Proofs.YtgliaglnblhinaaDoor

/-
  t
-/
import Derived.Test.YtgliaglnblhinaaDoorDigits
import Derived.Maps.Own
import Derived.Maps.OwnOps
import Derived.RegionTactic
namespace Go.Proofs.YtgliaglnblhinaaDoor
open Go.ChangeShapes Go.WideShapes Go.ChangeAt Go.RowKit Go.Maps Go.WideMaps

theorem law9 : Keyed Tryd.prog 9 := string_keyed Tryd.underlying9
theorem zero2 (w : World) : (zeroValue 2).run Tryd.prog w = .ok (.int .i64 0) w := by kernel_rfl

def millisData : DataW Unit :=
  (((((DataW.map []).put (.string [100]) (.lit (.int .i64 86400000))).put (.string [104]) (.lit (.int .i64 3600000))).put (.string [109]) (.lit (.int .i64 60000))).put (.string [115]) (.lit (.int .i64 1000))).put (.string [109, 115]) (.lit (.int .i64 1))

def Mil (b : Nat) (w : World) : Prop := w.ownsMap Tryd.prog 9 (plainElem Tryd.prog 2) b 5 millisData

def MilPost (w w' : World) : Prop := Mil w.heap.size w' ∧ Below w.heap.size w w'

theorem toMillis (w : World) :
    Calls Tryd.prog 28 #[] w fun e w' => e = .returned (.map (some w.heap.size)) ∧ MilPost w w' := by
  have hmm := @run_makeMap Tryd.prog
  have o0 := World.ownsMap_made (H := Unit) w Tryd.prog 9 (plainElem Tryd.prog 2)
  obtain ⟨w1, r1, o1, g1⟩ := o0.update law9 Tryd.underlying73 (by unfold maxLen; omega) (key := .string ⟨#[100]⟩) (val := .int .i64 86400000) (keyOf_string_mk Tryd.underlying9 (by decide)) (plainElem_int Tryd.underlying2 (by decide))
  obtain ⟨w2, r2, o2, g2⟩ := o1.update law9 Tryd.underlying73 (by unfold maxLen; omega) (key := .string ⟨#[104]⟩) (val := .int .i64 3600000) (keyOf_string_mk Tryd.underlying9 (by decide)) (plainElem_int Tryd.underlying2 (by decide))
  obtain ⟨w3, r3, o3, g3⟩ := o2.update law9 Tryd.underlying73 (by unfold maxLen; omega) (key := .string ⟨#[109]⟩) (val := .int .i64 60000) (keyOf_string_mk Tryd.underlying9 (by decide)) (plainElem_int Tryd.underlying2 (by decide))
  obtain ⟨w4, r4, o4, g4⟩ := o3.update law9 Tryd.underlying73 (by unfold maxLen; omega) (key := .string ⟨#[115]⟩) (val := .int .i64 1000) (keyOf_string_mk Tryd.underlying9 (by decide)) (plainElem_int Tryd.underlying2 (by decide))
  obtain ⟨w5, r5, o5, g5⟩ := o4.update law9 Tryd.underlying73 (by unfold maxLen; omega) (key := .string ⟨#[109, 115]⟩) (val := .int .i64 1) (keyOf_string_mk Tryd.underlying9 (by decide)) (plainElem_int Tryd.underlying2 (by decide))
  have hb : Below w.heap.size w w5 := by
    have b0 : Below w.heap.size w (w.alloc (.map #[] 0)) := (Below.refl _ _).alloc (Nat.le_refl _) _
    have s1 := g1.size; have s2 := g2.size; have s3 := g3.size; have s4 := g4.size
    simp only [World.size_alloc] at s1
    have b1 := b0.grown g1 (by simp) (fun k hk => by cases hk; exact Nat.le_refl _)
    have b2 := b1.grown g2 (by omega) (fun k hk => by cases hk; exact Nat.le_refl _)
    have b3 := b2.grown g3 (by omega) (fun k hk => by cases hk; exact Nat.le_refl _)
    have b4 := b3.grown g4 (by omega) (fun k hk => by cases hk; exact Nat.le_refl _)
    exact b4.grown g5 (by omega) (fun k hk => by cases hk; exact Nat.le_refl _)
  have hfin : MilPost w w5 := ⟨o5, hb⟩
  clear hb o0 o1 o2 o3 o4 o5 g1 g2 g3 g4 g5
  go_enter Tryd.func28, Tryd.ntmps28
  go_wp2
  go_ret
  exact ⟨rfl, hfin⟩

theorem mil_at0 : millisData.atKey (.string [100]) (.lit (.int .i64 0)) = .lit (.int .i64 86400000) := by kernel_rfl
theorem mil_at1 : millisData.atKey (.string [104]) (.lit (.int .i64 0)) = .lit (.int .i64 3600000) := by kernel_rfl
theorem mil_at2 : millisData.atKey (.string [109]) (.lit (.int .i64 0)) = .lit (.int .i64 60000) := by kernel_rfl
theorem mil_at3 : millisData.atKey (.string [115]) (.lit (.int .i64 0)) = .lit (.int .i64 1000) := by kernel_rfl
theorem mil_at4 : millisData.atKey (.string [109, 115]) (.lit (.int .i64 0)) = .lit (.int .i64 1) := by kernel_rfl
theorem mil_at (k : Nat) (hk : k < 5) : millisData.atKey (.string (ByteArray.mk (nm k).toArray).data.toList) (.lit (.int .i64 0)) = .lit (.int .i64 (sz k)) := by
  have hk' : k = 0 ∨ k = 1 ∨ k = 2 ∨ k = 3 ∨ k = 4 := by omega
  rcases hk' with rfl | rfl | rfl | rfl | rfl
  · exact mil_at0
  · exact mil_at1
  · exact mil_at2
  · exact mil_at3
  · exact mil_at4

/-- What the map holds at the unit k. -/
theorem mil_look {b : Nat} {w : World} (h : Mil b w) (k : Nat) (hk : k < 5) :
    (Instr.lookup 73 (.map (some b)) (.string ⟨(nm k).toArray⟩) false).run Tryd.prog w = .ok (.int .i64 (sz k)) w := by
  have hsz : (ByteArray.mk (nm k).toArray).size ≤ maxLen := by
    have hk' : k = 0 ∨ k = 1 ∨ k = 2 ∨ k = 3 ∨ k = 4 := by omega
    rcases hk' with rfl | rfl | rfl | rfl | rfl <;> decide
  obtain ⟨c, hrun, hat, _⟩ := World.ownsMap.lookup_int h law9 Tryd.underlying73 Tryd.underlying2 (zero2 w) (keyOf_string_mk Tryd.underlying9 hsz)
  rw [hrun]
  have e := hat.symm.trans (mil_at k hk)
  injection e with e
  injection e with _ e
  rw [e]

end Go.Proofs.YtgliaglnblhinaaDoor

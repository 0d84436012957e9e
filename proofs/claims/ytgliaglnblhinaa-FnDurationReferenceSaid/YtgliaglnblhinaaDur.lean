/-
  For every int the law FnDurationReference returns true and leaves its argument as it was: the days, hours, minutes, seconds and milliseconds of a duration are those of the reference.
  Conditions: none beyond those of the given row.
-/
import Derived.Test.YtgliaglnblhinaaRows
import Derived.WalkKit
import Derived.ProofKit
import Derived.OpenShut
import Derived.Lib.Hide
import Derived.Deep.RegionHeld3
import Derived.Outline
import Derived.ShutString
namespace Go.Proofs.Ytgliaglnblhinaa.fnDurationReference
open Go.ChangeShapes Go.WideShapes Go.ChangeAt Go.RowKit
open Go.ChangeMaps (open_string shut_string)
set_option linter.unusedVariables false      -- a walk need not use every 'w<i>' (that an integer argument fits its kind)

theorem own : ownKnob Try.prog.godebug = none := by kernel_rfl


theorem days (n : Int) (w : World) :
    Calls Try.prog 14 #[.agg #[.int .i64 n]] w fun e w' => e = .returned (.int .i64 (wrap64 (n.tdiv 86400000))) ∧ Below w.heap.size w w' := by
  go_enter Try.func14, Try.ntmps14
  go_wp2
  go_ret
  exact ⟨rfl, by repeat (first | exact Below.refl _ _ | apply Below.drew | exact (Below.refl _ _).alloc (Nat.le_refl _) _)⟩

theorem hours (n : Int) (w : World) :
    Calls Try.prog 15 #[.agg #[.int .i64 n]] w fun e w' => e = .returned (.int .i64 (wrap64 (n.tdiv 3600000))) ∧ Below w.heap.size w w' := by
  go_enter Try.func15, Try.ntmps15
  go_wp2
  go_ret
  exact ⟨rfl, by repeat (first | exact Below.refl _ _ | apply Below.drew | exact (Below.refl _ _).alloc (Nat.le_refl _) _)⟩

theorem minutes (n : Int) (w : World) :
    Calls Try.prog 16 #[.agg #[.int .i64 n]] w fun e w' => e = .returned (.int .i64 (wrap64 (n.tdiv 60000))) ∧ Below w.heap.size w w' := by
  go_enter Try.func16, Try.ntmps16
  go_wp2
  go_ret
  exact ⟨rfl, by repeat (first | exact Below.refl _ _ | apply Below.drew | exact (Below.refl _ _).alloc (Nat.le_refl _) _)⟩

theorem seconds (n : Int) (w : World) :
    Calls Try.prog 17 #[.agg #[.int .i64 n]] w fun e w' => e = .returned (.int .i64 (wrap64 (n.tdiv 1000))) ∧ Below w.heap.size w w' := by
  go_enter Try.func17, Try.ntmps17
  go_wp2
  go_ret
  exact ⟨rfl, by repeat (first | exact Below.refl _ _ | apply Below.drew | exact (Below.refl _ _).alloc (Nat.le_refl _) _)⟩

theorem millis (n : Int) (w : World) :
    Calls Try.prog 18 #[.agg #[.int .i64 n]] w fun e w' => e = .returned (.int .i64 n) ∧ Below w.heap.size w w' := by
  go_enter Try.func18, Try.ntmps18
  go_wp2
  go_ret
  exact ⟨rfl, by repeat (first | exact Below.refl _ _ | apply Below.drew | exact (Below.refl _ _).alloc (Nat.le_refl _) _)⟩

theorem specParts (n : Int) (w : World) :
    Calls Try.prog 8 #[.int .i64 n] w fun e w' => e = .returned (.tuple #[.int .i64 (wrap64 (n.tdiv 86400000)), .int .i64 (wrap64 (n.tdiv 3600000)), .int .i64 (wrap64 (n.tdiv 60000)), .int .i64 (wrap64 (n.tdiv 1000)), .int .i64 n]) ∧ Below w.heap.size w w' := by
  go_enter Try.func8, Try.ntmps8
  go_wp2
  simp [bodyPost, results, Try.results8, go_sem]
  exact Below.refl _ _

theorem make (n : Int) (w : World) :
    Calls Try.prog 13 #[.int .i64 n] w fun e w' => e = .returned (.agg #[.int .i64 n]) ∧ w.alloc (.cells #[.int .i64 n] 36) = w' := by
  go_enter Try.func13, Try.ntmps13
  go_wp2
  simp [bodyPost, results, Try.results13, go_sem]

def Held (w : World) (n : Int) (w' : World) : Prop := Below w.heap.size w w' ∧ w.heap.size + 1 < w'.heap.size

theorem two_new (w : World) (n : Int) : ((w.alloc (.cells #[.int .i64 n] 36)).alloc (.cells #[.int .i64 n] 36)).cell? ⟨w.heap.size + 1, 0, none⟩ = some (.int .i64 n) ∧
    Held w n ((w.alloc (.cells #[.int .i64 n] 36)).alloc (.cells #[.int .i64 n] 36)) := by
  refine ⟨?_, ((Below.refl _ w).alloc (Nat.le_refl _) _).alloc (by simp) _, ?_⟩
  · rw [World.cell?_alloc_at _ _ _ _ (by simp)]; rfl
  · simp

theorem Held.one {w w' : World} {n : Int} (h : Held w n w') : Below w.heap.size w w' := h.1

theorem keepS {w W w' : World} {n : Int} {v : Value} (h : Below W.heap.size W w') (hc : W.cell? ⟨w.heap.size + 1, 0, none⟩ = some v) (hb : Held w n W) :
    w'.cell? ⟨w.heap.size + 1, 0, none⟩ = some v ∧ Held w n w' :=
  ⟨(h.cell (p := ⟨w.heap.size + 1, 0, none⟩) hb.2).trans hc, hb.1.trans (h.mono (by have := hb.2; omega)), by have := hb.2; have := h.size; omega⟩

theorem implParts (n : Int) (w : World) :
    Calls Try.prog 7 #[.int .i64 n] w fun e w' => e = .returned (.tuple #[.int .i64 (wrap64 (n.tdiv 86400000)), .int .i64 (wrap64 (n.tdiv 3600000)), .int .i64 (wrap64 (n.tdiv 60000)), .int .i64 (wrap64 (n.tdiv 1000)), .int .i64 n]) ∧ Below w.heap.size w w' := by
  go_enter Try.func7, Try.ntmps7
  go_wp2_with (go_at_call 13; refine (make n _).mono ?_; rintro e w' ⟨rfl, rfl⟩)
  obtain ⟨hc, hg⟩ := two_new w n
  generalize (w.alloc (.cells #[.int .i64 n] 36)).alloc (.cells #[.int .i64 n] 36) = W at *
  go_region_held3 (fun w' => w'.cell? ⟨w.heap.size + 1, 0, none⟩ = some (.int .i64 n) ∧ Held w n w') (first | exact keepS ((Below.refl _ W).drew) hc hg | (go_split_ands; exact keepS (by assumption) (by assumption) (by assumption)))
    (first
      | (go_at_call 14; refine (days n _).mono ?_; rintro e w' ⟨rfl, hg⟩)
      | (go_at_call 15; refine (hours n _).mono ?_; rintro e w' ⟨rfl, hg⟩)
      | (go_at_call 16; refine (minutes n _).mono ?_; rintro e w' ⟨rfl, hg⟩)
      | (go_at_call 17; refine (seconds n _).mono ?_; rintro e w' ⟨rfl, hg⟩)
      | (go_at_call 18; refine (millis n _).mono ?_; rintro e w' ⟨rfl, hg⟩))
  go_wp2
  go_split_ands
  simp [bodyPost, results, Try.results7, go_sem]
  exact Held.one (by assumption)

theorem walk (a0 : Int) (w0 : (Lit.int .i64 a0).wf = true) (w : World) :
    Calls Try.prog 4 #[.int .i64 a0] w fun e w' => e = .returned (.bool true) ∧ Below w.heap.size w w' := by
  clear w0
  go_enter Try.func4, Try.ntmps4
  go_wp2_with fail
  refine (implParts a0 _).mono ?_
  rintro e w1 ⟨rfl, hb1⟩
  go_wp2_with fail
  refine (specParts a0 _).mono ?_
  rintro e w2 ⟨rfl, hb2⟩
  go_wp2_with fail
  go_ret
  exact ⟨rfl, hb1.trans (hb2.mono hb1.size)⟩

/-! ### THE ROW's STEP: WRITTEN OUT: LEAVE IT -/
set_option maxRecDepth 100000 in
theorem lifted (os : Os) (started : os.Started) (H : Type) (enc : TypeId × Value → H) :
    ReturnsInHanded {} Try.checked os 4 .any (Rows.fnDurationReferenceSpec.pre6 enc Try.prog Try.f4 Rows.fnDurationReferenceRow.domain false) (Rows.fnDurationReferenceSpec.post enc Try.prog Try.f4 false true false false) := by
  refine returnsInHanded_of_change (C := Try.checked) own started (by kernel_rfl) Try.func4
    (ChangeSpec.witness6 (enc := enc) (C := Try.checked) false ⟨#[], #[.int .i64 0], []⟩ 8 (by kernel_rfl) (by kernel_rfl) (by kernel_rfl) (by kernel_rfl)) ?_
  intro W base args ds gs before hval0 hW hcnd _
  have hval : ∀ (j : Nat) t v, Try.f4.params[j]? = some t → args[j]? = some v → Value.okWide Try.prog W .any base t v := hval0
  have hW' := hW
  obtain ⟨p, q, hA0, hV, rfl, hfz, hnd⟩ := hW
  have hA : DataW.TrodAll enc Try.prog W 0 (fun _ => true) true Try.f4.params.toList args.toList ds p := hA0
  rw [Try.params4] at hA hval
  obtain ⟨v0, vs0, d0, ds0, p0, q0, hargs, rfl, rfl, h0, r0⟩ := trodAll_cons hA
  obtain ⟨rfl, rfl, rfl⟩ := trodAll_nil r0
  obtain rfl : args = #[v0] := by cases args; simp_all
  obtain ⟨rfl, rfl⟩ := trodVars_none hV
  obtain ⟨a0, rfl, rfl, rfl, w0⟩ := open_int Try.underlying3 (hval 0 3 v0 rfl rfl) h0
  clear hA0 hval0
  simp only [List.append_nil] at hW'
  refine (walk a0 w0 W).mono fun e W' ⟨he, bel⟩ => ?_
  subst he
  exact ⟨_, rfl, _, _, _, [], _, [], hW', trodAll_mk1 (shut_bool Try.underlying4 _), trodAll_cons_mk (shut_int Try.underlying3 w0) trodAll_mk0, rfl, bel.frame _, fun h => by cases h⟩

theorem over : Rows.fnDurationReferenceRow.holds Try.pinned (OpenSpec.ofChange Rows.fnDurationReferenceSpec) :=
  OpenClaim.holds_of_wide 4 Try.f4 rfl rfl rfl rfl rfl rfl rfl ⟨rfl, rfl, rfl, rfl, rfl⟩ rfl rfl rfl rfl rfl (by kernel_rfl) Try.func4 (by kernel_rfl)
    (of_decide_eq_true (by kernel_rfl)) (by unfold Func.isWrapper; first | (rw [if_pos (by decide +kernel)]; kernel_rfl) | (rw [if_neg (by decide +kernel)]; exact ⟨rfl, rfl⟩))
    (fun os started H enc _ => lifted os started H enc)

/-- ████ THE STATEMENT ████ -/
theorem proved : Rows.FnDurationReferenceSaid :=
  over
#print axioms proved
end Go.Proofs.Ytgliaglnblhinaa.fnDurationReference

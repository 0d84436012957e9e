/-
  For every three ints a, b and c the law FnAddThree returns true and leaves its arguments as they were: where all sums have answers, (a + b) + c is a + (b + c).
  Conditions: none beyond those of the given row.
-/
import Derived.Test.YtgliaglnblhinaaRows
import Derived.WalkKit
import Derived.ProofKit
import Derived.OpenShut
import Derived.Lib.Hide
namespace Go.Proofs.Ytgliaglnblhinaa.fnAddThree
open Go.ChangeShapes Go.WideShapes Go.ChangeAt Go.RowKit
set_option linter.unusedVariables false      -- a walk need not use every 'w<i>' (that an integer argument fits its kind)

theorem own : ownKnob Try.prog.godebug = none := by kernel_rfl

theorem addI_yes (a b : Int) (_ha : -9223372036854775808 ≤ a) (_ha' : a ≤ 9223372036854775807) (_hb : -9223372036854775808 ≤ b) (_hb' : b ≤ 9223372036854775807)
    (h : -9223372036854775808 ≤ a + b) (h' : a + b ≤ 9223372036854775807) (w : World) :
    Calls Try.prog 21 #[.int .i64 a, .int .i64 b] w fun e w' => e = .returned (.tuple #[.int .i64 (a + b), .bool true]) ∧ w = w' := by
  by_cases hb0 : 0 < b
  · have h1 : decide (a < a + b) = true := by simp; omega
    have h2 : decide (0 < b) = true := by simp; omega
    go_enter Try.func21, Try.ntmps21
    go_wp2
    go_ret2
    exact ⟨rfl, rfl⟩
  · have h1 : decide (a < a + b) = false := by simp; omega
    have h2 : decide (0 < b) = false := by simp; omega
    go_enter Try.func21, Try.ntmps21
    go_wp2
    go_ret2
    exact ⟨rfl, rfl⟩

theorem addI_no (a b : Int) (_ha : -9223372036854775808 ≤ a) (_ha' : a ≤ 9223372036854775807) (_hb : -9223372036854775808 ≤ b) (_hb' : b ≤ 9223372036854775807)
    (h : a + b < -9223372036854775808 ∨ 9223372036854775807 < a + b) (w : World) :
    Calls Try.prog 21 #[.int .i64 a, .int .i64 b] w fun e w' => e = .returned (.tuple #[.int .i64 (wrap64 (a + b)), .bool false]) ∧ w = w' := by
  rcases h with h | h
  · have e : wrap64 (a + b) = a + b + 18446744073709551616 := by unfold wrap64; omega
    have h1 : decide (a < wrap64 (a + b)) = true := by rw [e]; simp; omega
    have h2 : decide (0 < b) = false := by simp; omega
    clear e
    go_enter Try.func21, Try.ntmps21
    go_wp2
    go_ret2
    exact ⟨rfl, rfl⟩
  · have e : wrap64 (a + b) = a + b - 18446744073709551616 := by unfold wrap64; omega
    have h1 : decide (a < wrap64 (a + b)) = false := by rw [e]; simp; omega
    have h2 : decide (0 < b) = true := by simp; omega
    clear e
    go_enter Try.func21, Try.ntmps21
    go_wp2
    go_ret2
    exact ⟨rfl, rfl⟩

theorem add_yes (a b : Int) (ha : -9223372036854775808 ≤ a) (ha' : a ≤ 9223372036854775807) (hb : -9223372036854775808 ≤ b) (hb' : b ≤ 9223372036854775807)
    (h : -9223372036854775808 ≤ a + b) (h' : a + b ≤ 9223372036854775807) (w : World) :
    Calls Try.prog 6 #[.int .i64 a, .int .i64 b] w fun e w' => e = .returned (.tuple #[.int .i64 (a + b), .bool true]) ∧ w = w' := by
  go_enter Try.func6, Try.ntmps6
  go_wp2_with (first | (go_at_call 21; refine (addI_yes a b ha ha' hb hb' h h' _).mono ?_; rintro e w' ⟨rfl, rfl⟩) | go_in)
  go_ret2
  exact ⟨rfl, rfl⟩

theorem add_no (a b : Int) (ha : -9223372036854775808 ≤ a) (ha' : a ≤ 9223372036854775807) (hb : -9223372036854775808 ≤ b) (hb' : b ≤ 9223372036854775807)
    (h : a + b < -9223372036854775808 ∨ 9223372036854775807 < a + b) (w : World) :
    Calls Try.prog 6 #[.int .i64 a, .int .i64 b] w fun e w' => e = .returned (.tuple #[.int .i64 (wrap64 (a + b)), .bool false]) ∧ w = w' := by
  go_enter Try.func6, Try.ntmps6
  go_wp2_with (first | (go_at_call 21; refine (addI_no a b ha ha' hb hb' h _).mono ?_; rintro e w' ⟨rfl, rfl⟩) | go_in)
  go_ret2
  exact ⟨rfl, rfl⟩

theorem three (w : World) : Calls Try.prog 6 #[.int .i64 1, .int .i64 2] w fun e w' => e = .returned (.tuple #[.int .i64 3, .bool true]) ∧ w = w' :=
  add_yes 1 2 (by omega) (by omega) (by omega) (by omega) (by omega) (by omega) w

theorem walk (a0 : Int) (a1 : Int) (a2 : Int) (w0 : (Lit.int .i64 a0).wf = true) (w1 : (Lit.int .i64 a1).wf = true) (w2 : (Lit.int .i64 a2).wf = true) (w : World) :
    Calls Try.prog 3 #[.int .i64 a0, .int .i64 a1, .int .i64 a2] w fun e w' => e = .returned (.bool true) ∧ Grown w w' := by
  have b0 := bounds_i64 w0; have b1 := bounds_i64 w1; have b2 := bounds_i64 w2
  clear w0 w1 w2
  obtain ⟨l0, u0⟩ := b0; obtain ⟨l1, u1⟩ := b1; obtain ⟨l2, u2⟩ := b2
  by_cases h1 : -9223372036854775808 ≤ a0 + a1 ∧ a0 + a1 ≤ 9223372036854775807
  · obtain ⟨h1, h1'⟩ := h1
    by_cases h2 : -9223372036854775808 ≤ a1 + a2 ∧ a1 + a2 ≤ 9223372036854775807
    · obtain ⟨h2, h2'⟩ := h2
      by_cases h3 : -9223372036854775808 ≤ a0 + a1 + a2 ∧ a0 + a1 + a2 ≤ 9223372036854775807
      · obtain ⟨h3, h3'⟩ := h3
        have C := fun w => add_yes a0 (a1 + a2) l0 u0 h2 h2' (by omega) (by omega) w
        rw [show a0 + (a1 + a2) = a0 + a1 + a2 from by omega] at C
        have C1 := Go.Lib.hid C
        clear C
        go_enter Try.func3, Try.ntmps3
        go_wp2_with fail
        refine (three _).mono ?_
        rintro e w' ⟨rfl, rfl⟩
        go_wp2_with fail
        refine (add_yes a0 a1 l0 u0 l1 u1 h1 h1' _).mono ?_
        rintro e w' ⟨rfl, rfl⟩
        go_wp2_with fail
        refine (add_yes a1 a2 l1 u1 l2 u2 h2 h2' _).mono ?_
        rintro e w' ⟨rfl, rfl⟩
        go_wp2_with fail
        refine (add_yes (a0 + a1) a2 h1 h1' l2 u2 h3 h3' _).mono ?_
        rintro e w' ⟨rfl, rfl⟩
        go_wp2_with fail
        refine (C1.out _).mono ?_
        rintro e w' ⟨rfl, rfl⟩
        go_wp2_with fail
        go_ret
        exact ⟨rfl, Grown.refl _⟩
      · have d1 : a0 + a1 + a2 < -9223372036854775808 ∨ 9223372036854775807 < a0 + a1 + a2 := by omega
        have d2 : a0 + (a1 + a2) < -9223372036854775808 ∨ 9223372036854775807 < a0 + (a1 + a2) := by omega
        have D1 := Go.Lib.hid d1
        have D2 := Go.Lib.hid d2
        clear d1 d2 h3
        go_enter Try.func3, Try.ntmps3
        go_wp2_with fail
        refine (three _).mono ?_
        rintro e w' ⟨rfl, rfl⟩
        go_wp2_with fail
        refine (add_yes a0 a1 l0 u0 l1 u1 h1 h1' _).mono ?_
        rintro e w' ⟨rfl, rfl⟩
        go_wp2_with fail
        refine (add_yes a1 a2 l1 u1 l2 u2 h2 h2' _).mono ?_
        rintro e w' ⟨rfl, rfl⟩
        go_wp2_with fail
        refine (add_no (a0 + a1) a2 h1 h1' l2 u2 D1.out _).mono ?_
        rintro e w' ⟨rfl, rfl⟩
        go_wp2_with fail
        refine (add_no a0 (a1 + a2) l0 u0 h2 h2' D2.out _).mono ?_
        rintro e w' ⟨rfl, rfl⟩
        go_wp2_with fail
        go_ret
        exact ⟨rfl, Grown.refl _⟩
    · have d2 : a1 + a2 < -9223372036854775808 ∨ 9223372036854775807 < a1 + a2 := by omega
      have D2 := Go.Lib.hid d2
      clear d2 h2
      go_enter Try.func3, Try.ntmps3
      go_wp2_with fail
      refine (three _).mono ?_
      rintro e w' ⟨rfl, rfl⟩
      go_wp2_with fail
      refine (add_yes a0 a1 l0 u0 l1 u1 h1 h1' _).mono ?_
      rintro e w' ⟨rfl, rfl⟩
      go_wp2_with fail
      refine (add_no a1 a2 l1 u1 l2 u2 D2.out _).mono ?_
      rintro e w' ⟨rfl, rfl⟩
      go_wp2_with fail
      go_ret
      exact ⟨rfl, Grown.refl _⟩
  · have d1 : a0 + a1 < -9223372036854775808 ∨ 9223372036854775807 < a0 + a1 := by omega
    have D1 := Go.Lib.hid d1
    clear d1 h1
    by_cases h2 : -9223372036854775808 ≤ a1 + a2 ∧ a1 + a2 ≤ 9223372036854775807
    · obtain ⟨h2, h2'⟩ := h2
      go_enter Try.func3, Try.ntmps3
      go_wp2_with fail
      refine (three _).mono ?_
      rintro e w' ⟨rfl, rfl⟩
      go_wp2_with fail
      refine (add_no a0 a1 l0 u0 l1 u1 D1.out _).mono ?_
      rintro e w' ⟨rfl, rfl⟩
      go_wp2_with fail
      refine (add_yes a1 a2 l1 u1 l2 u2 h2 h2' _).mono ?_
      rintro e w' ⟨rfl, rfl⟩
      go_wp2_with fail
      go_ret
      exact ⟨rfl, Grown.refl _⟩
    · have d2 : a1 + a2 < -9223372036854775808 ∨ 9223372036854775807 < a1 + a2 := by omega
      have D2 := Go.Lib.hid d2
      clear d2 h2
      go_enter Try.func3, Try.ntmps3
      go_wp2_with fail
      refine (three _).mono ?_
      rintro e w' ⟨rfl, rfl⟩
      go_wp2_with fail
      refine (add_no a0 a1 l0 u0 l1 u1 D1.out _).mono ?_
      rintro e w' ⟨rfl, rfl⟩
      go_wp2_with fail
      refine (add_no a1 a2 l1 u1 l2 u2 D2.out _).mono ?_
      rintro e w' ⟨rfl, rfl⟩
      go_wp2_with fail
      go_ret
      exact ⟨rfl, Grown.refl _⟩

/-! ### THE ROW's STEP: WRITTEN OUT: LEAVE IT -/
set_option maxRecDepth 100000 in
theorem lifted (os : Os) (started : os.Started) (H : Type) (enc : TypeId × Value → H) :
    ReturnsInHanded {} Try.checked os 3 .any (Rows.fnAddThreeSpec.pre6 enc Try.prog Try.f3 Rows.fnAddThreeRow.domain false) (Rows.fnAddThreeSpec.post enc Try.prog Try.f3 false true false false) := by
  refine returnsInHanded_of_change (C := Try.checked) own started (by kernel_rfl) Try.func3
    (ChangeSpec.witness6 (enc := enc) (C := Try.checked) false ⟨#[], #[.int .i64 0, .int .i64 0, .int .i64 0], []⟩ 8 (by kernel_rfl) (by kernel_rfl) (by kernel_rfl) (by kernel_rfl)) ?_
  intro W base args ds gs before hval0 hW hcnd _
  have hval : ∀ (j : Nat) t v, Try.f3.params[j]? = some t → args[j]? = some v → Value.okWide Try.prog W .any base t v := hval0
  have hW' := hW
  obtain ⟨p, q, hA0, hV, rfl, hfz, hnd⟩ := hW
  have hA : DataW.TrodAll enc Try.prog W 0 (fun _ => true) true Try.f3.params.toList args.toList ds p := hA0
  rw [Try.params3] at hA hval
  obtain ⟨v0, vs0, d0, ds0, p0, q0, hargs, rfl, rfl, h0, r0⟩ := trodAll_cons hA
  obtain ⟨v1, vs1, d1, ds1, p1, q1, rfl, rfl, rfl, h1, r1⟩ := trodAll_cons r0
  obtain ⟨v2, vs2, d2, ds2, p2, q2, rfl, rfl, rfl, h2, r2⟩ := trodAll_cons r1
  obtain ⟨rfl, rfl, rfl⟩ := trodAll_nil r2
  obtain rfl : args = #[v0, v1, v2] := by cases args; simp_all
  obtain ⟨rfl, rfl⟩ := trodVars_none hV
  obtain ⟨a0, rfl, rfl, rfl, w0⟩ := open_int Try.underlying3 (hval 0 3 v0 rfl rfl) h0
  obtain ⟨a1, rfl, rfl, rfl, w1⟩ := open_int Try.underlying3 (hval 1 3 v1 rfl rfl) h1
  obtain ⟨a2, rfl, rfl, rfl, w2⟩ := open_int Try.underlying3 (hval 2 3 v2 rfl rfl) h2
  clear hA0 hval0
  simp only [List.append_nil] at hW'
  refine (walk a0 a1 a2 w0 w1 w2 W).mono fun e W' ⟨he, hg⟩ => ?_
  subst he
  exact ⟨_, rfl, post_of_same (pa := []) (pv := []) hW' (fun _ _ _ => (trodAll_cons_mk (shut_bool Try.underlying4 _) trodAll_mk0)) (fun sp _ => (trodAll_cons_mk (shut_int Try.underlying3 w0) (trodAll_cons_mk (shut_int Try.underlying3 w1) (trodAll_cons_mk (shut_int Try.underlying3 w2) trodAll_mk0)))) (fun _ _ => rfl) rfl
    (hg.frame _) hg.2.1 (ok_one (by kernel_rfl) rfl (okWide_bool_mk Try.underlying4 _))⟩

theorem over : Rows.fnAddThreeRow.holds Try.pinned (OpenSpec.ofChange Rows.fnAddThreeSpec) :=
  OpenClaim.holds_of_wide 3 Try.f3 rfl rfl rfl rfl rfl rfl rfl ⟨rfl, rfl, rfl, rfl, rfl⟩ rfl rfl rfl rfl rfl (by kernel_rfl) Try.func3 (by kernel_rfl)
    (of_decide_eq_true (by kernel_rfl)) (by unfold Func.isWrapper; first | (rw [if_pos (by decide +kernel)]; kernel_rfl) | (rw [if_neg (by decide +kernel)]; exact ⟨rfl, rfl⟩))
    (fun os started H enc _ => lifted os started H enc)

/-- ████ THE STATEMENT ████ -/
theorem proved : Rows.FnAddThreeSaid :=
  over
#print axioms proved
end Go.Proofs.Ytgliaglnblhinaa.fnAddThree

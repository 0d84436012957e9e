/-
  The hexadecimal escapes, walked.
  Conditions: sizes.
-/
import Derived.Test.YthklhdeegmanbaaDoorNext
namespace Go.Proofs.YthklhdeegmanbaaDoor.Esc
open Go Go.ChangeShapes Go.WideShapes Go.ChangeAt Go.RowKit

def EscPost (p : Option (Int × Bs)) (l : Bs) (W : World) (e : Ending) (W' : World) : Prop :=
  Since W W' ∧ ((p = none ∧ ∃ (i : Int) (t : TypeId) (v : Value), e = .returned (.tuple #[.int .i32 0, .int .i64 i, .iface t v])) ∨
    (∃ (c : Int) (t : Bs) (i : Nat), p = some (c, t) ∧ i ≤ l.length ∧ l.drop i = t ∧ e = .returned (.tuple #[.int .i32 c, .int .i64 i, .nilIface])))

theorem hexVal_R (x : UInt8) : hexVal x = hexR x.toNat := rfl
theorem rune_hex {x : UInt8} {r : Bs} : hexR (Lib.decodeL (x :: r)).1 = hexVal x ∧ ((hexVal x).isSome = true → Lib.decodeL (x :: r) = (x.toNat, 1)) := by
  rcases first_rune (x := x) (r := r) with ⟨h, e⟩ | ⟨h, e⟩
  · rw [e]; exact ⟨rfl, fun _ => rfl⟩
  · have h1 : hexVal x = none := by
      rw [hexVal_R]
      cases k : hexR x.toNat with
      | none => rfl
      | some v => have := (hexR_lt k).1; omega
    have h2 : hexR (Lib.decodeL (x :: r)).1 = none := by
      cases k : hexR (Lib.decodeL (x :: r)).1 with
      | none => rfl
      | some v => have := (hexR_lt k).1; omega
    rw [h1, h2]
    exact ⟨rfl, fun h => by cases h⟩
theorem drop_cons {l : Bs} {i : Nat} {x : UInt8} {r : Bs} (h : l.drop i = x :: r) : i < l.length ∧ l.drop (i + 1) = r := by
  have h1 : i < l.length := by
    rcases Nat.lt_or_ge i l.length with h' | h'
    · exact h'
    · rw [List.drop_of_length_le h'] at h; cases h
  refine ⟨h1, ?_⟩
  rw [← List.drop_drop, h]
  rfl

theorem next_at (l : Bs) (b o cap i : Nat) (z : Int) (hz : z = (i : Int)) (w : World) (hi : i ≤ l.length) (hlc : l.length ≤ cap) (hcap : cap ≤ maxLen) (hrow : Row w b o l) (hT : Tabs w) (hg : Good (l.drop i)) :
    Calls Tryd.prog 16 #[.slice (some ⟨b, o, none⟩) l.length cap, .int .i64 z] w (NextPost l i w) := by
  subst hz
  exact next_any l b o cap i w hi hlc hcap hrow hT hg

set_option maxHeartbeats 1000000 in
theorem hexes_any (l : Bs) (b o cap i : Nat) (w : World) (hi : i ≤ l.length) (hlc : l.length ≤ cap) (hcap : cap ≤ maxLen) (hrow : Row w b o l) (hT : Tabs w) (hg : Good (l.drop i)) :
    Calls Tryd.prog 19 #[.slice (some ⟨b, o, none⟩) l.length cap, .int .i64 i] w (EscPost (hex2 (l.drop i)) l w) := by
  have HN := Go.Lib.hid (fun w' (hs : Since w w') => next_any l b o cap i w' hi hlc hcap (hrow.since hs) (tabs_since hT hs) hg)
  cases hd : l.drop i with
  | nil =>
    go_enter Tryd.func19, Tryd.ntmps19
    go_wp2_with fail
    refine (HN.out _ (Since.refl w)).mono ?_
    rintro e w1 ⟨hs1, ⟨_, t, v, rfl⟩ | ⟨h, _⟩⟩
    · go_wp2
      exact ⟨rfl, _, by simp [results, Tryd.results19, go_sem]; rfl, hs1, .inl ⟨rfl, _, t, v, rfl⟩⟩
    · exact absurd hd h
  | cons x r =>
    obtain ⟨hi1, hd1⟩ := drop_cons hd
    obtain ⟨e1, e2⟩ := rune_hex (x := x) (r := r)
    have hmax := Lib.decodeL_rune (x :: r)
    go_enter Tryd.func19, Tryd.ntmps19
    go_wp2_with fail
    refine (HN.out _ (Since.refl w)).mono ?_
    rintro e w1 ⟨hs1, ⟨h, _⟩ | ⟨_, rfl⟩⟩
    · rw [hd] at h; cases h
    rw [hd]
    cases hv : hexVal x with
    | none =>
      rw [hv] at e1
      have hend : hex2 (x :: r) = none := by
        unfold hex2
        cases r with
        | nil => rfl
        | cons y r' => simp only [hv]
      have HEND := Go.Lib.hid hend
      clear hend
      have HI := Go.Lib.hid (isHex_any _ hmax)
      generalize Lib.decodeL (x :: r) = d at *
      clear HN hrow hT hg hd
      go_wp2_with fail
      refine (HI.out _).mono ?_
      rintro e w2 ⟨q, rfl, rfl, hq⟩
      rw [e1] at hq
      obtain rfl : q = false := by cases q; rfl; exact absurd (hq.1 rfl) (by simp)
      clear hq
      go_wp2_with fail
      refine (new_any _ _).mono ?_
      rintro e w3 ⟨t, v, rfl, hs3⟩
      have hs4 := hs1.trans hs3
      go_wp2
      exact ⟨rfl, _, by simp [results, Tryd.results19, go_sem]; rfl, hs4, .inl ⟨HEND.out, _, t, v, rfl⟩⟩
    | some a =>
      have ha := hexVal_lt hv
      rw [e2 (by rw [hv]; rfl)]
      have HN2 := Go.Lib.hid (fun w' (hs : Since w w') => next_at l b o cap (i + 1) ((i : Int) + 1) (by omega) w' hi1 hlc hcap (hrow.since hs) (tabs_since hT hs) (by rw [hd1]; exact good_cons ha.1 (hd ▸ hg)))
      have HI := Go.Lib.hid (fun w => isHex_any x.toNat (by omega) w)
      have HVA := Go.Lib.hid (fun w => val_any x.toNat (by rw [← hexVal_R, hv]; rfl) w)
      have hxr : hexR x.toNat = some a := hv
      clear HN hrow hT hg
      go_wp2_with fail
      refine (HI.out _).mono ?_
      rintro e w2 ⟨q, rfl, rfl, hq⟩
      rw [hxr] at hq
      obtain rfl : q = true := hq.2 rfl
      clear hq
      go_wp2_with fail
      refine (HVA.out _).mono ?_
      rintro e w2 ⟨a', ha', rfl, rfl⟩
      obtain rfl : a = a' := by rw [hxr] at ha'; injection ha'
      clear ha'
      go_wp2_with fail
      refine (HN2.out _ hs1).mono ?_
      rintro e w3 ⟨hs3, hcase⟩
      have hs4 := hs1.trans hs3
      rw [hd1] at hcase
      rcases hcase with ⟨hr, t, v, rfl⟩ | ⟨hr, rfl⟩
      · subst hr
        go_wp2
        exact ⟨rfl, _, by simp [results, Tryd.results19, go_sem]; rfl, hs4, .inl ⟨rfl, _, t, v, rfl⟩⟩
      · cases r with
        | nil => exact absurd rfl hr
        | cons y r' =>
          obtain ⟨hi2, hd2⟩ := drop_cons hd1
          obtain ⟨f1, f2⟩ := rune_hex (x := y) (r := r')
          have hmaxy := Lib.decodeL_rune (y :: r')
          cases hvy : hexVal y with
          | none =>
            rw [hvy] at f1
            have hend : hex2 (x :: y :: r') = none := by unfold hex2; simp only [hv, hvy]
            have HEND := Go.Lib.hid hend
            clear hend
            have HI2 := Go.Lib.hid (isHex_any _ hmaxy)
            generalize Lib.decodeL (y :: r') = d at *
            clear HN2 hd hd1 hd2 HI HVA
            go_wp2_with fail
            refine (HI2.out _).mono ?_
            rintro e w5 ⟨q, rfl, rfl, hq⟩
            rw [f1] at hq
            obtain rfl : q = false := by cases q; rfl; exact absurd (hq.1 rfl) (by simp)
            clear hq
            go_wp2_with fail
            refine (new_any _ _).mono ?_
            rintro e w6 ⟨t, v, rfl, hs6⟩
            have hs7 := hs4.trans hs6
            go_wp2
            exact ⟨rfl, _, by simp [results, Tryd.results19, go_sem]; rfl, hs7, .inl ⟨HEND.out, _, t, v, rfl⟩⟩
          | some c =>
            have hc := hexVal_lt hvy
            rw [f2 (by rw [hvy]; rfl)]
            have hyr : hexR y.toNat = some c := hvy
            have HI2 := Go.Lib.hid (fun w => isHex_any y.toNat (by omega) w)
            have HVA2 := Go.Lib.hid (fun w => val_any y.toNat (by rw [hyr]; rfl) w)
            have w1 : IntKind.i64.wrap (16 * (a : Int)) = 16 * (a : Int) := by rw [IntKind.wrap_i64]; omega
            have w2' : IntKind.i64.wrap (16 * (a : Int) + c) = 16 * (a : Int) + c := by rw [IntKind.wrap_i64]; omega
            have w3' : IntKind.i32.wrap (16 * (a : Int) + c) = 16 * (a : Int) + c := IntWalk.i32_in _ (by omega)
            by_cases hbig : 16 * a + c ≤ 127
            · have hend : hex2 (x :: y :: r') = some (((16 * a + c : Nat) : Int), r') := by unfold hex2; simp only [hv, hvy]; rw [if_pos hbig]
              have HEND := Go.Lib.hid hend
              clear hend
              have hd3 : l.drop (i + 1 + 1) = r' := hd2
              have hsm : ¬ ((127 : Int) < 16 * (a : Int) + c) := by omega
              clear HN2 hd hd1 HI HVA hmax hmaxy e1 e2 f1 f2
              go_wp2_with fail
              refine (HI2.out _).mono ?_
              rintro e w5 ⟨q, rfl, rfl, hq⟩
              rw [hyr] at hq
              obtain rfl : q = true := hq.2 rfl
              clear hq
              go_wp2_with fail
              refine (HVA2.out _).mono ?_
              rintro e w5 ⟨c', hc', rfl, rfl⟩
              obtain rfl : c = c' := by rw [hyr] at hc'; injection hc'
              clear hc'
              go_wp2
              exact ⟨rfl, _, by simp [results, Tryd.results19, go_sem]; rfl, hs4, .inr ⟨_, r', i + 1 + 1, HEND.out, by omega, hd3, by simp⟩⟩
            · have hend : hex2 (x :: y :: r') = none := by unfold hex2; simp only [hv, hvy]; rw [if_neg hbig]
              have HEND := Go.Lib.hid hend
              clear hend
              have hsm : (127 : Int) < 16 * (a : Int) + c := by omega
              clear HN2 hd hd1 HI HVA hmax hmaxy e1 e2 f1 f2
              go_wp2_with fail
              refine (HI2.out _).mono ?_
              rintro e w5 ⟨q, rfl, rfl, hq⟩
              rw [hyr] at hq
              obtain rfl : q = true := hq.2 rfl
              clear hq
              go_wp2_with fail
              refine (HVA2.out _).mono ?_
              rintro e w5 ⟨c', hc', rfl, rfl⟩
              obtain rfl : c = c' := by rw [hyr] at hc'; injection hc'
              clear hc'
              go_wp2_with fail
              refine (new_any _ _).mono ?_
              rintro e w6 ⟨t, v, rfl, hs6⟩
              have hs7 := hs4.trans hs6
              go_wp2
              exact ⟨rfl, _, by simp [results, Tryd.results19, go_sem]; rfl, hs7, .inl ⟨HEND.out, _, t, v, rfl⟩⟩

end Go.Proofs.YthklhdeegmanbaaDoor.Esc

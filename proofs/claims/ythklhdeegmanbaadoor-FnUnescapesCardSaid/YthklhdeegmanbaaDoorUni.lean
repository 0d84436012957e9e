/-
  The escapes with braces, walked.
  Conditions: sizes.
-/
import Derived.Test.YthklhdeegmanbaaDoorHex
namespace Go.Proofs.YthklhdeegmanbaaDoor.Esc
open Go Go.ChangeShapes Go.WideShapes Go.ChangeAt Go.RowKit

theorem num16_snoc (ds : List Nat) (v : Nat) : num16 (ds ++ [v]) = 16 * num16 ds + v := by simp [num16]
theorem num16_lt' : ∀ (ds : List Nat) (a : Nat), (∀ d ∈ ds, d < 16) → ds.foldl (fun n d => 16 * n + d) a < (a + 1) * 16 ^ ds.length
  | [], a, _ => by simp
  | d :: ds, a, h => by
    have h1 := num16_lt' ds (16 * a + d) (fun x hx => h x (List.mem_cons_of_mem _ hx))
    have h2 := h d List.mem_cons_self
    have h3 : (16 * a + d + 1) * 16 ^ ds.length ≤ (16 * (a + 1)) * 16 ^ ds.length := Nat.mul_le_mul_right _ (by omega)
    have h4 : (16 * (a + 1)) * 16 ^ ds.length = (a + 1) * 16 ^ (ds.length + 1) := by rw [Nat.pow_succ, Nat.mul_comm 16 (a + 1), Nat.mul_assoc, Nat.mul_comm 16]
    simp only [List.foldl_cons, List.length_cons]
    omega
theorem num16_lt {ds : List Nat} (h : ∀ d ∈ ds, d < 16) (h6 : ds.length ≤ 6) : num16 ds < 16777216 := by
  have h1 := num16_lt' ds 0 h
  have h2 : 16 ^ ds.length ≤ 16 ^ 6 := Nat.pow_le_pow_right (by decide) h6
  have h3 : (16 : Nat) ^ 6 = 16777216 := by decide
  unfold num16
  omega

/-- Behind the brace: what the loop has read, and what is left. -/
def URel (l r : Bs) (n : Nat) (w : World) (iv dv rv : Value) (wr : World) : Prop :=
  ∃ (i : Nat) (ds : List Nat) (z : Int), iv = .int .i64 i ∧ dv = .int .i64 ds.length ∧ rv = .int .i64 z ∧ i ≤ n ∧ ds.length ≤ i ∧ Good (l.drop i) ∧
    (∀ d ∈ ds, d < 16) ∧ (ds.length ≤ 6 → z = num16 ds) ∧ hexRun r = (ds ++ (hexRun (l.drop i)).1, (hexRun (l.drop i)).2) ∧ Since w wr

theorem uni_none {x : UInt8} {r : Bs} (h : x.toNat ≠ 123) : uni (x :: r) = none := by unfold uni; simp only; rw [if_neg h]
theorem hexRun_stop {y : UInt8} {t : Bs} (h : hexVal y = none) : hexRun (y :: t) = ([], y :: t) := by
  rw [hexRun]
  simp only [h]
theorem hexRun_go {y : UInt8} {t : Bs} {v : Nat} (h : hexVal y = some v) : hexRun (y :: t) = (v :: (hexRun t).1, (hexRun t).2) := by
  rw [hexRun]
  simp only [h]

set_option maxHeartbeats 2000000 in
theorem unis_any (l : Bs) (b o cap i : Nat) (w : World) (hi : i ≤ l.length) (hlc : l.length ≤ cap) (hcap : cap ≤ maxLen) (hrow : Row w b o l) (hT : Tabs w) (hg : Good (l.drop i)) :
    Calls Tryd.prog 20 #[.slice (some ⟨b, o, none⟩) l.length cap, .int .i64 i] w (EscPost (uni (l.drop i)) l w) := by
  have HN := Go.Lib.hid (fun w' (hs : Since w w') => next_any l b o cap i w' hi hlc hcap (hrow.since hs) (tabs_since hT hs) hg)
  cases hd : l.drop i with
  | nil =>
    go_enter Tryd.func20, Tryd.ntmps20
    go_wp2_with fail
    refine (HN.out _ (Since.refl w)).mono ?_
    rintro e w1 ⟨hs1, ⟨_, t, v, rfl⟩ | ⟨h, _⟩⟩
    · go_wp2
      exact ⟨rfl, _, by simp [results, Tryd.results20, go_sem]; rfl, hs1, .inl ⟨rfl, _, t, v, rfl⟩⟩
    · exact absurd hd h
  | cons x r =>
    obtain ⟨hi1, hd1⟩ := drop_cons hd
    have hfr := first_rune (x := x) (r := r)
    have hmax := Lib.decodeL_rune (x :: r)
    go_enter Tryd.func20, Tryd.ntmps20
    go_wp2_with fail
    refine (HN.out _ (Since.refl w)).mono ?_
    rintro e w1 ⟨hs1, ⟨h, _⟩ | ⟨_, rfl⟩⟩
    · rw [hd] at h; cases h
    rw [hd]
    by_cases hx : x.toNat = 123
    · have hx2 : Lib.decodeL (x :: r) = (123, 1) := by
        rcases hfr with ⟨_, e⟩ | ⟨h, _⟩
        · rw [e, hx]
        · omega
      rw [hx2]
      have HNX := Go.Lib.hid (fun (i' : Nat) w' (hi' : i' ≤ l.length) (hg' : Good (l.drop i')) (hs : Since w w') => next_any l b o cap i' w' hi' hlc hcap (hrow.since hs) (tabs_since hT hs) hg')
      have hg1 : Good (l.drop (i + 1)) := by rw [hd1]; exact good_cons (by omega) (hd ▸ hg)
      have HD1 := Go.Lib.hid hd1
      have HU := Go.Lib.hid (show uni (x :: r) = match (hexRun r).2 with
        | y :: t => if y.toNat = 125 ∧ 1 ≤ (hexRun r).1.length ∧ (hexRun r).1.length ≤ 6 ∧ Lib.validRune (num16 (hexRun r).1) = true then some ((num16 (hexRun r).1 : Nat), t) else none
        | [] => none from if_pos hx)
      clear HN hfr hmax hrow hT hg hd hx2 hd1
      have hn : l.length ≤ 2 ^ 63 - 1 := by unfold maxLen at hcap; omega
      generalize hln : l.length = n at *
      have HLN := Go.Lib.hid hln
      clear hln
      go_wp2
      go_loopw [1, 9, 10] (fun iv dv rv wr => URel l r n w iv dv rv wr) (fun iv _ _ _ => n - (intOf iv).toNat)
      case atStart => exact ⟨i + 1, [], 0, by go_num, rfl, rfl, hi1, Nat.zero_le _, hg1, by simp, fun _ => rfl, by rw [HD1.out]; rfl, hs1⟩
      case round =>
        obtain ⟨k, ds, z, rfl, rfl, rfl, hk, hdk, hgk, hds, hz, hrun, hb⟩ := hrel
        have HG := Go.Lib.hid hgk
        have HRUN := Go.Lib.hid hrun
        have HDS := Go.Lib.hid hds
        have HZ := Go.Lib.hid hz
        clear hrun hds hz hgk hs1
        go_wp2_with fail
        refine (HNX.out k _ hk HG.out hb).mono ?_
        rintro e w2 ⟨hs2, ⟨hnil, t, v, rfl⟩ | ⟨hne, rfl⟩⟩
        · have hb2 := hb.trans hs2
          have hend : uni (x :: r) = none := by
            rw [HU.out, HRUN.out, hnil]
            rfl
          have HEND := Go.Lib.hid hend
          clear hend hnil HU HRUN HDS HZ
          go_wp2
          exact ⟨rfl, _, by simp [results, Tryd.results20, go_sem]; rfl, hb2, .inl ⟨HEND.out, _, t, v, rfl⟩⟩
        · have hb2 := hb.trans hs2
          obtain ⟨y, t, hyt⟩ : ∃ y t, l.drop k = y :: t := by
            cases h : l.drop k with
            | nil => exact absurd h hne
            | cons y t => exact ⟨y, t, rfl⟩
          have hgk := HG.out
          have hrun := HRUN.out
          rw [hyt] at hgk hrun ⊢
          obtain ⟨hk1, hd2⟩ := drop_cons hyt
          rw [HLN.out] at hk1
          obtain ⟨f1, f2⟩ := rune_hex (x := y) (r := t)
          have hfr := first_rune (x := y) (r := t)
          have hmax := Lib.decodeL_rune (y :: t)
          by_cases hy : y.toNat = 125
          · have hy2 : Lib.decodeL (y :: t) = (125, 1) := by
              rcases hfr with ⟨_, e⟩ | ⟨h, _⟩
              · rw [e, hy]
              · omega
            have hyn : hexVal y = none := by rw [hexVal_R, hy]; rfl
            rw [hexRun_stop hyn, List.append_nil] at hrun
            rw [hy2]
            have hends := HU.out
            rw [hrun] at hends
            simp only [hy, true_and] at hends
            clear f1 f2 hfr hmax hy2 hne HG hgk HU HRUN hrun
            have hzz := HZ.out
            have hlt := fun h6 => num16_lt HDS.out h6
            generalize num16 ds = N at *
            generalize ds.length = dl at *
            by_cases h0 : dl = 0
            · have HEND := Go.Lib.hid (hends.trans (if_neg (by omega)))
              subst h0
              clear hends hzz hlt HZ HDS
              go_wp2_with fail
              refine (new_any _ _).mono ?_
              rintro e w6 ⟨t', v, rfl, hs6⟩
              have hs7 := hb2.trans hs6
              go_wp2
              exact ⟨rfl, _, by simp [results, Tryd.results20, go_sem]; rfl, hs7, .inl ⟨HEND.out, _, t', v, rfl⟩⟩
            · have h0' : ¬ ((dl : Int) = 0) := by omega
              by_cases h6 : dl ≤ 6
              · have h6' : ¬ ((6 : Int) < (dl : Int)) := by omega
                obtain rfl := hzz h6
                have hN := hlt h6
                have hcv : IntKind.i32.wrap (N : Int) = N := IntWalk.i32_in _ (by omega)
                have HV := Go.Lib.hid (fun w => Tryd.utf8_ValidRune (N : Int) w)
                cases hval : Lib.validRune (N : Int) with
                | false =>
                  rw [hval] at hends HV
                  have HEND := Go.Lib.hid (hends.trans (if_neg (by simp)))
                  clear hends hzz hlt HZ HDS h0 h6 hval
                  go_wp2_with fail
                  refine (HV.out _).mono ?_
                  rintro e w6 ⟨rfl, rfl⟩
                  go_wp2_with fail
                  refine (new_any _ _).mono ?_
                  rintro e w6 ⟨t', v, rfl, hs6⟩
                  have hs7 := hb2.trans hs6
                  go_wp2
                  exact ⟨rfl, _, by simp [results, Tryd.results20, go_sem]; rfl, hs7, .inl ⟨HEND.out, _, t', v, rfl⟩⟩
                | true =>
                  rw [hval] at hends HV
                  have HEND := Go.Lib.hid (hends.trans (if_pos ⟨by omega, h6, rfl⟩))
                  have HD2 := Go.Lib.hid hd2
                  clear hends hzz hlt HZ HDS h0 h6 hval hd2
                  go_wp2_with fail
                  refine (HV.out _).mono ?_
                  rintro e w6 ⟨rfl, rfl⟩
                  go_wp2
                  · exfalso
                    rename_i h
                    simp at h
                    omega
                  exact ⟨rfl, _, by simp [results, Tryd.results20, go_sem]; rfl, hb2, .inr ⟨_, t, k + 1, HEND.out, by rw [HLN.out]; omega, HD2.out, by simp⟩⟩
              · have HEND := Go.Lib.hid (hends.trans (if_neg (by omega)))
                have h6' : (6 : Int) < (dl : Int) := by omega
                clear hends hzz hlt HZ HDS h0 h6
                go_wp2_with fail
                refine (new_any _ _).mono ?_
                rintro e w6 ⟨t', v, rfl, hs6⟩
                have hs7 := hb2.trans hs6
                go_wp2
                exact ⟨rfl, _, by simp [results, Tryd.results20, go_sem]; rfl, hs7, .inl ⟨HEND.out, _, t', v, rfl⟩⟩
          · have hy2 : ¬ ((Lib.decodeL (y :: t)).1 : Int) = 125 := by
              rcases hfr with ⟨_, e⟩ | ⟨h, e⟩
              · rw [e]; simp only; omega
              · omega
            cases hv : hexVal y with
            | none =>
              rw [hv] at f1
              rw [hexRun_stop hv, List.append_nil] at hrun
              have hends := HU.out
              rw [hrun] at hends
              simp only [hy, false_and, if_false] at hends
              have HEND := Go.Lib.hid hends
              have HI := Go.Lib.hid (isHex_any _ hmax)
              clear f2 hfr hne HG hgk HU HRUN hrun hends HZ HDS hd2 hyt
              generalize Lib.decodeL (y :: t) = d at *
              go_wp2_with fail
              refine (HI.out _).mono ?_
              rintro e w5 ⟨q, rfl, rfl, hq⟩
              rw [f1] at hq
              obtain rfl : q = false := by cases q; rfl; exact absurd (hq.1 rfl) (by simp)
              clear hq
              go_wp2_with fail
              refine (new_any _ _).mono ?_
              rintro e w6 ⟨t', v, rfl, hs6⟩
              have hs7 := hb2.trans hs6
              go_wp2
              exact ⟨rfl, _, by simp [results, Tryd.results20, go_sem]; rfl, hs7, .inl ⟨HEND.out, _, t', v, rfl⟩⟩
            | some c =>
              have hc := hexVal_lt hv
              rw [f2 (by rw [hv]; rfl)] at hy2 ⊢
              have hyr : hexR y.toNat = some c := hv
              have HI := Go.Lib.hid (fun w => isHex_any y.toNat (by omega) w)
              have HVA := Go.Lib.hid (fun w => val_any y.toNat (by rw [hyr]; rfl) w)
              rw [hexRun_go hv] at hrun
              have hnext : URel l r n w (.int .i64 ((k : Int) + 1)) (.int .i64 ((ds.length : Int) + 1)) (.int .i64 (wrap64 (wrap64 (16 * z) + c))) w2 := by
                refine ⟨k + 1, ds ++ [c], _, by go_num, by simp, rfl, hk1, by simp; omega, by rw [hd2]; exact good_cons hc.1 hgk, ?_, ?_, ?_, hb2⟩
                · intro d hd
                  rcases List.mem_append.1 hd with h | h
                  · exact HDS.out d h
                  · simp at h; omega
                · intro h6
                  simp at h6
                  have hz := HZ.out (by omega)
                  have hlt := num16_lt HDS.out (by omega)
                  have hc2 := hc.2
                  subst hz
                  rw [num16_snoc]
                  generalize num16 ds = N at *
                  have b1 : -9223372036854775808 ≤ 16 * (N : Int) ∧ 16 * (N : Int) ≤ 9223372036854775807 := by omega
                  have b2 : -9223372036854775808 ≤ 16 * (N : Int) + c ∧ 16 * (N : Int) + c ≤ 9223372036854775807 := by omega
                  have b3 : 16 * (N : Int) + c = ((16 * N + c : Nat) : Int) := by omega
                  rw [← IntWalk.i64_left (16 * (N : Int)), IntWalk.i64_in _ b1, ← IntWalk.i64_left (16 * (N : Int) + c), IntWalk.i64_in _ b2]
                  exact b3
                · rw [hd2, hrun]; simp
              have HNEXT := Go.Lib.hid hnext
              have hdw : IntKind.i64.wrap ((ds.length : Int) + 1) = (ds.length : Int) + 1 := by rw [IntKind.wrap_i64]; omega
              clear f1 f2 hfr hne HG hgk HU HRUN hrun HZ HDS hd2 hyt hnext hmax
              go_wp2_with fail
              refine (HI.out _).mono ?_
              rintro e w5 ⟨q, rfl, rfl, hq⟩
              rw [hyr] at hq
              obtain rfl : q = true := hq.2 rfl
              clear hq
              go_wp2_with fail
              refine (HVA.out _).mono ?_
              rintro e w5 ⟨c', hc', rfl, rfl⟩
              obtain rfl : c = c' := by rw [hyr] at hc'; injection hc'
              clear hc'
              go_wp2
              go_roundw
              case rel => exact HNEXT.out
              case measure => simp [intOf]; omega
    · have hx2 : ¬ ((Lib.decodeL (x :: r)).1 : Int) = 123 := by
        rcases hfr with ⟨_, e⟩ | ⟨h, e⟩
        · rw [e]; simp only; omega
        · omega
      have HEND := Go.Lib.hid (uni_none (r := r) hx)
      generalize Lib.decodeL (x :: r) = d at *
      clear HN hfr hrow hT hg hd
      go_wp2_with fail
      refine (new_any _ _).mono ?_
      rintro e w6 ⟨t, v, rfl, hs6⟩
      have hs7 := hs1.trans hs6
      go_wp2
      exact ⟨rfl, _, by simp [results, Tryd.results20, go_sem]; rfl, hs7, .inl ⟨HEND.out, _, t, v, rfl⟩⟩

end Go.Proofs.YthklhdeegmanbaaDoor.Esc

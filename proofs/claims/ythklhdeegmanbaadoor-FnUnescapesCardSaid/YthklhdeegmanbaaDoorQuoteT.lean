/-
  rust.Unquote without (F) and with (T) stars, walked: it answers as the plain reading does.
  Conditions: sizes.
-/
import Derived.Test.YthklhdeegmanbaaDoorQuote
namespace Go.Proofs.YthklhdeegmanbaaDoor.Esc
open Go Go.ChangeShapes Go.WideShapes Go.ChangeAt Go.RowKit

set_option maxRecDepth 100000 in
set_option maxHeartbeats 4000000 in
theorem quote_true (l : Bs) (b o cap : Nat) (W : World) (hn2 : l.length ≤ 2000) (hlc : l.length ≤ cap) (hcap : cap ≤ maxLen) (hrow : Row W b o l) (hT : Tabs W) (hg : Good l) :
    Calls Tryd.prog 10 #[.slice (some ⟨b, o, none⟩) l.length cap, .bool true] W (QPost l true b o W) := by
  have HNX := Go.Lib.hid (fun (i' : Nat) (z : Int) w' (hz : z = (i' : Int)) (hi' : i' ≤ l.length) (hg' : Good (l.drop i')) (hs : Since W w') => next_at l b o cap i' z hz w' hi' hlc hcap (hrow.since hs) (tabs_since hT hs) hg')
  have HHX := Go.Lib.hid (fun (i' : Nat) w' (hi' : i' ≤ l.length) (hg' : Good (l.drop i')) (hs : Since W w') => hexes_any l b o cap i' w' hi' hlc hcap (hrow.since hs) (tabs_since hT hs) hg')
  have HUX := Go.Lib.hid (fun (i' : Nat) w' (hi' : i' ≤ l.length) (hg' : Good (l.drop i')) (hs : Since W w') => unis_any l b o cap i' w' hi' hlc hcap (hrow.since hs) (tabs_since hT hs) hg')
  have HGL := Go.Lib.hid hg
  clear hrow hT hg
  unfold maxLen at hcap
  generalize hln : l.length = n at *
  have HLN := Go.Lib.hid hln
  have HBN := Go.Lib.hid (build_new W)
  clear hln
  go_enter Tryd.func10, Tryd.ntmps10
  go_wp2
  go_loopw [10] (fun iv wr => QRel l true n W iv wr) (fun iv _ => n - (intOf iv).toNat)
  case atStart => exact ⟨0, [], rfl, Nat.zero_le _, HGL.out, by rw [List.drop_zero, prep_nil], by simp, HBN.out, (Since.refl W).alloc _⟩
  case round =>
    obtain ⟨k, acc, rfl, hk, hgk, hq, hal, hbu, hb⟩ := hrel
    have HQ := Go.Lib.hid hq
    have HG := Go.Lib.hid hgk
    have HBU := Go.Lib.hid hbu
    have hbl : (Lib.byteCells acc).length + 4 ≤ 140737488355328 := by rw [Lib.byteCells_length]; omega
    have hsz := hb.size
    clear hq hgk hbu
    by_cases hkn : k < n
    · obtain ⟨x, r, hd⟩ : ∃ x r, l.drop k = x :: r := by
        cases h : l.drop k with
        | nil => have := congrArg List.length h; rw [List.length_drop, HLN.out] at this; simp at this; omega
        | cons x r => exact ⟨x, r, rfl⟩
      obtain ⟨hk1, hd1⟩ := drop_cons hd
      rw [HLN.out] at hk1
      have hmax := Lib.decodeL_rune (x :: r)
      have HD := Go.Lib.hid hd
      have HD1 := Go.Lib.hid hd1
      clear hd1
      go_wp2_with fail
      refine (HNX.out k _ _ rfl hk HG.out hb).mono ?_
      rintro e w2 ⟨hs2, ⟨h, _⟩ | ⟨_, rfl⟩⟩
      · rw [hd] at h; cases h
      rw [hd]
      have hb2 := hb.trans hs2
      have hsz2 := hb2.size
      have HBU2 := Go.Lib.hid (build_since HBU.out hs2)
      clear hd HBU
      by_cases hx : x.toNat = 92
      · rw [rune_is (c := 92) (by decide) hx]
        have HG1 := Go.Lib.hid (show Good (l.drop (k + 1)) from by rw [HD1.out]; exact good_cons (by omega) (HD.out ▸ HG.out))
        go_wp2_with fail
        refine (HNX.out (k + 1) _ _ (by omega) hk1 HG1.out hb2).mono ?_
        rintro e w3 ⟨hs3, ⟨hnil, t', v, rfl⟩ | ⟨hne, rfl⟩⟩
        · have hb3 := hb2.trans hs3
          rw [HD1.out] at hnil
          have HEND := Go.Lib.hid (q_bad HD.out hx HQ.out (by rw [hnil]; rfl))
          clear HNX HHX HUX HBU2 HQ hnil
          go_wp2
          exact ⟨rfl, _, by simp [results, Tryd.results10, go_sem] <;> rfl, hb3, .inl ⟨HEND.out, t', v, rfl⟩⟩
        · have hb3 := hb2.trans hs3
          have hsz3 := hb3.size
          obtain ⟨y, t, hyt⟩ : ∃ y t, r = y :: t := by
            cases h : r with
            | nil => exact absurd (by rw [HD1.out, h]) hne
            | cons y t => exact ⟨y, t, rfl⟩
          subst hyt
          obtain ⟨hk2, hd2⟩ := drop_cons HD1.out
          rw [HLN.out] at hk2
          have HD2 := Go.Lib.hid (show l.drop (k + 2) = t from hd2)
          have HBU3 := Go.Lib.hid (build_since HBU2.out hs3)
          obtain ⟨s1, s2, s3, s4, s5, s6, s7, s8, s9, s10⟩ := esc_simple (star := true) (y := y) (t := t)
          rw [HD1.out]
          have hmaxy := Lib.decodeL_rune (y :: t)
          clear HBU2 hd2 hne HNX hmax
          by_cases y110 : y.toNat = 110
          · rw [rune_is (c := 110) (by decide) y110]
            go_wp2_with fail
            refine (rune_any W.heap.size W.heap.size (Lib.byteCells acc) 10 (by omega) (by omega) _ HBU3.out hbl (by omega)).mono ?_
            rintro e w6 ⟨⟨v6, rfl⟩, hbu6, hbel6⟩
            have hb6 : Since W w6 := since_below hb3 hbel6
            have HREL := Go.Lib.hid (q_esc (z := (k : Int) + 1 + 1) HLN.out HD.out hx HG.out HQ.out hal (s1 y110) hk2 HD2.out (by omega) hbu6 hb6)
            have hmm : k < k + 2 := by omega
            clear HBU3 hbu6 hbel6 HHX HUX HQ
            go_wp2
            go_roundw
            case rel => exact HREL.out
            case measure =>
              have hme := HREL.out
              obtain ⟨i5, _, e5, hi5, _⟩ := hme
              simp at e5
              simp [intOf]; omega
          by_cases y114 : y.toNat = 114
          · rw [rune_is (c := 114) (by decide) y114]
            go_wp2_with fail
            refine (rune_any W.heap.size W.heap.size (Lib.byteCells acc) 13 (by omega) (by omega) _ HBU3.out hbl (by omega)).mono ?_
            rintro e w6 ⟨⟨v6, rfl⟩, hbu6, hbel6⟩
            have hb6 : Since W w6 := since_below hb3 hbel6
            have HREL := Go.Lib.hid (q_esc (z := (k : Int) + 1 + 1) HLN.out HD.out hx HG.out HQ.out hal (s2 y114) hk2 HD2.out (by omega) hbu6 hb6)
            have hmm : k < k + 2 := by omega
            clear HBU3 hbu6 hbel6 HHX HUX HQ
            go_wp2
            go_roundw
            case rel => exact HREL.out
            case measure =>
              have hme := HREL.out
              obtain ⟨i5, _, e5, hi5, _⟩ := hme
              simp at e5
              simp [intOf]; omega
          by_cases y116 : y.toNat = 116
          · rw [rune_is (c := 116) (by decide) y116]
            go_wp2_with fail
            refine (rune_any W.heap.size W.heap.size (Lib.byteCells acc) 9 (by omega) (by omega) _ HBU3.out hbl (by omega)).mono ?_
            rintro e w6 ⟨⟨v6, rfl⟩, hbu6, hbel6⟩
            have hb6 : Since W w6 := since_below hb3 hbel6
            have HREL := Go.Lib.hid (q_esc (z := (k : Int) + 1 + 1) HLN.out HD.out hx HG.out HQ.out hal (s3 y116) hk2 HD2.out (by omega) hbu6 hb6)
            have hmm : k < k + 2 := by omega
            clear HBU3 hbu6 hbel6 HHX HUX HQ
            go_wp2
            go_roundw
            case rel => exact HREL.out
            case measure =>
              have hme := HREL.out
              obtain ⟨i5, _, e5, hi5, _⟩ := hme
              simp at e5
              simp [intOf]; omega
          by_cases y92 : y.toNat = 92
          · rw [rune_is (c := 92) (by decide) y92]
            go_wp2_with fail
            refine (rune_any W.heap.size W.heap.size (Lib.byteCells acc) 92 (by omega) (by omega) _ HBU3.out hbl (by omega)).mono ?_
            rintro e w6 ⟨⟨v6, rfl⟩, hbu6, hbel6⟩
            have hb6 : Since W w6 := since_below hb3 hbel6
            have HREL := Go.Lib.hid (q_esc (z := (k : Int) + 1 + 1) HLN.out HD.out hx HG.out HQ.out hal (s4 y92) hk2 HD2.out (by omega) hbu6 hb6)
            have hmm : k < k + 2 := by omega
            clear HBU3 hbu6 hbel6 HHX HUX HQ
            go_wp2
            go_roundw
            case rel => exact HREL.out
            case measure =>
              have hme := HREL.out
              obtain ⟨i5, _, e5, hi5, _⟩ := hme
              simp at e5
              simp [intOf]; omega
          by_cases y48 : y.toNat = 48
          · rw [rune_is (c := 48) (by decide) y48]
            go_wp2_with fail
            refine (rune_any W.heap.size W.heap.size (Lib.byteCells acc) 0 (by omega) (by omega) _ HBU3.out hbl (by omega)).mono ?_
            rintro e w6 ⟨⟨v6, rfl⟩, hbu6, hbel6⟩
            have hb6 : Since W w6 := since_below hb3 hbel6
            have HREL := Go.Lib.hid (q_esc (z := (k : Int) + 1 + 1) HLN.out HD.out hx HG.out HQ.out hal (s5 y48) hk2 HD2.out (by omega) hbu6 hb6)
            have hmm : k < k + 2 := by omega
            clear HBU3 hbu6 hbel6 HHX HUX HQ
            go_wp2
            go_roundw
            case rel => exact HREL.out
            case measure =>
              have hme := HREL.out
              obtain ⟨i5, _, e5, hi5, _⟩ := hme
              simp at e5
              simp [intOf]; omega
          by_cases y39 : y.toNat = 39
          · rw [rune_is (c := 39) (by decide) y39]
            go_wp2_with fail
            refine (rune_any W.heap.size W.heap.size (Lib.byteCells acc) 39 (by omega) (by omega) _ HBU3.out hbl (by omega)).mono ?_
            rintro e w6 ⟨⟨v6, rfl⟩, hbu6, hbel6⟩
            have hb6 : Since W w6 := since_below hb3 hbel6
            have HREL := Go.Lib.hid (q_esc (z := (k : Int) + 1 + 1) HLN.out HD.out hx HG.out HQ.out hal (s6 y39) hk2 HD2.out (by omega) hbu6 hb6)
            have hmm : k < k + 2 := by omega
            clear HBU3 hbu6 hbel6 HHX HUX HQ
            go_wp2
            go_roundw
            case rel => exact HREL.out
            case measure =>
              have hme := HREL.out
              obtain ⟨i5, _, e5, hi5, _⟩ := hme
              simp at e5
              simp [intOf]; omega
          by_cases y34 : y.toNat = 34
          · rw [rune_is (c := 34) (by decide) y34]
            go_wp2_with fail
            refine (rune_any W.heap.size W.heap.size (Lib.byteCells acc) 34 (by omega) (by omega) _ HBU3.out hbl (by omega)).mono ?_
            rintro e w6 ⟨⟨v6, rfl⟩, hbu6, hbel6⟩
            have hb6 : Since W w6 := since_below hb3 hbel6
            have HREL := Go.Lib.hid (q_esc (z := (k : Int) + 1 + 1) HLN.out HD.out hx HG.out HQ.out hal (s7 y34) hk2 HD2.out (by omega) hbu6 hb6)
            have hmm : k < k + 2 := by omega
            clear HBU3 hbu6 hbel6 HHX HUX HQ
            go_wp2
            go_roundw
            case rel => exact HREL.out
            case measure =>
              have hme := HREL.out
              obtain ⟨i5, _, e5, hi5, _⟩ := hme
              simp at e5
              simp [intOf]; omega
          by_cases y120 : y.toNat = 120
          · rw [rune_is (c := 120) (by decide) y120]
            have HG2 := Go.Lib.hid (show Good (l.drop (k + 2)) from by rw [HD2.out]; exact good_cons (by omega) (HD1.out ▸ HG1.out))
            have hcall := HHX.out (k + 2) w3 hk2 HG2.out hb3
            rw [show (((k + 2 : Nat)) : Int) = (k : Int) + 1 + 1 from by omega] at hcall
            have HC := Go.Lib.hid hcall
            clear hcall
            go_wp2_with fail
            refine HC.out.mono ?_
            rintro e w5 ⟨hs5, ⟨hno, i5, t5, v5, rfl⟩ | ⟨c5, t5, i5, hyes, hi5, hdi5, rfl⟩⟩
            · have hb5 := hb3.trans hs5
              rw [HD2.out] at hno
              have HEND := Go.Lib.hid (q_bad HD.out hx HQ.out ((s8 y120).trans hno))
              clear HHX HUX HBU3 HQ hno HC
              go_wp2
              exact ⟨rfl, _, by simp [results, Tryd.results10, go_sem] <;> rfl, hb5, .inl ⟨HEND.out, t5, v5, rfl⟩⟩
            · have hb5 := hb3.trans hs5
              have hsz5 := hb5.size
              rw [HD2.out] at hyes
              rw [HLN.out] at hi5
              have HBU5 := Go.Lib.hid (build_since HBU3.out hs5)
              have hc5 := hex2_rune hyes
              have hi6 : k + 2 ≤ i5 := by have h1 := hex2_len hyes; have h2 := congrArg List.length HD2.out; rw [← hdi5, List.length_drop, ← h2, List.length_drop, HLN.out] at h1; omega
              go_wp2_with fail
              refine (rune_any W.heap.size W.heap.size (Lib.byteCells acc) c5 (by omega) (by omega) _ HBU5.out hbl (by omega)).mono ?_
              rintro e w6 ⟨⟨v6, rfl⟩, hbu6, hbel6⟩
              have hb6 : Since W w6 := since_below hb5 hbel6
              have HREL := Go.Lib.hid (q_esc (z := (i5 : Int)) HLN.out HD.out hx HG.out HQ.out hal ((s8 y120).trans hyes) hi5 hdi5 rfl hbu6 hb6)
              have hmm : k < i5 := by omega
              clear HBU3 HBU5 hbu6 hbel6 HHX HUX HQ HC hyes
              go_wp2
              go_roundw
              case rel => exact HREL.out
              case measure =>
                have hme := HREL.out
                obtain ⟨i5, _, e5, hi5, _⟩ := hme
                simp at e5
                simp [intOf]; omega
          by_cases y117 : y.toNat = 117
          · rw [rune_is (c := 117) (by decide) y117]
            have HG2 := Go.Lib.hid (show Good (l.drop (k + 2)) from by rw [HD2.out]; exact good_cons (by omega) (HD1.out ▸ HG1.out))
            have hcall := HUX.out (k + 2) w3 hk2 HG2.out hb3
            rw [show (((k + 2 : Nat)) : Int) = (k : Int) + 1 + 1 from by omega] at hcall
            have HC := Go.Lib.hid hcall
            clear hcall
            go_wp2_with fail
            refine HC.out.mono ?_
            rintro e w5 ⟨hs5, ⟨hno, i5, t5, v5, rfl⟩ | ⟨c5, t5, i5, hyes, hi5, hdi5, rfl⟩⟩
            · have hb5 := hb3.trans hs5
              rw [HD2.out] at hno
              have HEND := Go.Lib.hid (q_bad HD.out hx HQ.out ((s9 y117).trans hno))
              clear HHX HUX HBU3 HQ hno HC
              go_wp2
              exact ⟨rfl, _, by simp [results, Tryd.results10, go_sem] <;> rfl, hb5, .inl ⟨HEND.out, t5, v5, rfl⟩⟩
            · have hb5 := hb3.trans hs5
              have hsz5 := hb5.size
              rw [HD2.out] at hyes
              rw [HLN.out] at hi5
              have HBU5 := Go.Lib.hid (build_since HBU3.out hs5)
              have hc5 := uni_rune hyes
              have hi6 : k + 2 ≤ i5 := by have h1 := uni_len hyes; have h2 := congrArg List.length HD2.out; rw [← hdi5, List.length_drop, ← h2, List.length_drop, HLN.out] at h1; omega
              go_wp2_with fail
              refine (rune_any W.heap.size W.heap.size (Lib.byteCells acc) c5 (by omega) (by omega) _ HBU5.out hbl (by omega)).mono ?_
              rintro e w6 ⟨⟨v6, rfl⟩, hbu6, hbel6⟩
              have hb6 : Since W w6 := since_below hb5 hbel6
              have HREL := Go.Lib.hid (q_esc (z := (i5 : Int)) HLN.out HD.out hx HG.out HQ.out hal ((s9 y117).trans hyes) hi5 hdi5 rfl hbu6 hb6)
              have hmm : k < i5 := by omega
              clear HBU3 HBU5 hbu6 hbel6 HHX HUX HQ HC hyes
              go_wp2
              go_roundw
              case rel => exact HREL.out
              case measure =>
                have hme := HREL.out
                obtain ⟨i5, _, e5, hi5, _⟩ := hme
                simp at e5
                simp [intOf]; omega
          by_cases y42 : y.toNat = 42
          · rw [rune_is (c := 42) (by decide) y42]
            go_wp2_with fail
            refine (rune_any W.heap.size W.heap.size (Lib.byteCells acc) 42 (by omega) (by omega) _ HBU3.out hbl (by omega)).mono ?_
            rintro e w6 ⟨⟨v6, rfl⟩, hbu6, hbel6⟩
            have hb6 : Since W w6 := since_below hb3 hbel6
            have HREL := Go.Lib.hid (q_esc (z := (k : Int) + 1 + 1) HLN.out HD.out hx HG.out HQ.out hal (s10 y42) hk2 HD2.out (by omega) hbu6 hb6)
            have hmm : k < k + 2 := by omega
            clear HBU3 hbu6 hbel6 HHX HUX HQ
            go_wp2
            go_roundw
            case rel => exact HREL.out
            case measure =>
              have hme := HREL.out
              obtain ⟨i5, _, e5, hi5, _⟩ := hme
              simp at e5
              simp [intOf]; omega
          have HEND := Go.Lib.hid (q_bad HD.out hx HQ.out (esc_other (star := true) (t := t) ⟨y110, y114, y116, y92, y48, y39, y34, y120, y117, y42⟩))
          have r110 := rune_not (t := t) (c := 110) (by decide) y110
          have r114 := rune_not (t := t) (c := 114) (by decide) y114
          have r116 := rune_not (t := t) (c := 116) (by decide) y116
          have r92 := rune_not (t := t) (c := 92) (by decide) y92
          have r48 := rune_not (t := t) (c := 48) (by decide) y48
          have r39 := rune_not (t := t) (c := 39) (by decide) y39
          have r34 := rune_not (t := t) (c := 34) (by decide) y34
          have r120 := rune_not (t := t) (c := 120) (by decide) y120
          have r117 := rune_not (t := t) (c := 117) (by decide) y117
          have r42 := rune_not (t := t) (c := 42) (by decide) y42
          generalize (Lib.decodeL (y :: t)) = d at *
          clear HHX HUX HBU3 HQ s1 s2 s3 s4 s5 s6 s7 s8 s9 s10
          go_wp2_with fail
          refine (new_any _ _).mono ?_
          rintro e w5 ⟨t5, v5, rfl, hs5⟩
          have hb5 := hb3.trans hs5
          go_wp2
          exact ⟨rfl, _, by simp [results, Tryd.results10, go_sem] <;> rfl, hb5, .inl ⟨HEND.out, t5, v5, rfl⟩⟩
      · by_cases h42 : x.toNat = 42
        · rw [rune_is (c := 42) (by decide) h42]
          have hend : unq true l = some (acc, l.drop k) := by rw [HQ.out, HD.out, unq_star h42]; simp [prep]
          have HEND := Go.Lib.hid hend
          have hdl : n - k = (l.drop k).length := by rw [List.length_drop, HLN.out]
          have HDL := Go.Lib.hid hdl
          have hne : ¬ cap = k := by omega
          have hkc : (k : Int) ≤ (n : Int) := by omega
          have hnc : (n : Int) ≤ (cap : Int) := by omega
          have hw1 : IntKind.i64.wrap ((k : Int) + 1 - 1) = (k : Int) := by rw [IntKind.wrap_i64]; omega
          have hbd : Build W.heap.size W.heap.size (Lib.byteCells acc) w2.drew := HBU2.out
          have HBD := Go.Lib.hid hbd
          clear HNX HHX HUX HBU2 HQ hend hdl hbd
          go_wp2
          go_region_with (go_at_call 17; refine (Tryd.Builder_String_any_k W.heap.size W.heap.size acc _ HBD.out (by simp <;> omega)).mono ?_; rintro e w6 ⟨rfl, _, hbel6, _⟩)
          all_goals (have hb6 : Since W w6 := since_below (hb2.drew) hbel6)
          all_goals go_wp2
          all_goals exact ⟨rfl, .tuple #[.string (bs acc), .slice (some ⟨b, o + k, none⟩) (n - k) (cap - k), .nilIface], by simp [results, Tryd.results10, go_sem] <;> rfl, hb6, .inr ⟨acc, k, n - k, cap - k, some ⟨b, o + k, none⟩, HEND.out, HDL.out, .inr rfl, rfl⟩⟩
        · have r42 := rune_not (t := r) (c := 42) (by decide) h42
          have r92 := rune_not (t := r) (c := 92) (by decide) hx
          have hwid := Lib.decodeL_width (x :: r)
          have hpl := fun w' hbu hs => q_plain (W := W) (w' := w') (z := (k : Int) + ((Lib.decodeL (x :: r)).2 : Int)) HLN.out HD.out (by rintro ⟨_, e⟩; exact h42 e) hx HG.out HQ.out hal rfl hbu hs
          have HPL := Go.Lib.hid hpl
          clear hpl HNX HHX HUX HQ
          generalize (Lib.decodeL (x :: r)) = d at *
          obtain ⟨d1, d2⟩ := d
          simp only at *
          go_wp2_with fail
          refine (rune_any W.heap.size W.heap.size (Lib.byteCells acc) (d1 : Int) (by omega) (by omega) _ HBU2.out hbl (by omega)).mono ?_
          rintro e w6 ⟨⟨v6, rfl⟩, hbu6, hbel6⟩
          have hb6 : Since W w6 := since_below hb2 hbel6
          have HREL := Go.Lib.hid (HPL.out w6 hbu6 hb6)
          clear HBU2 hbu6 hbel6 HPL
          go_wp2
          go_roundw
          case rel => exact HREL.out
          case measure =>
            have hme := HREL.out
            obtain ⟨i5, _, e5, hi5, _⟩ := hme
            simp at e5
            simp [intOf]; omega
    · obtain rfl : k = n := by omega
      have hdl : l.drop k = [] := List.drop_of_length_le (by rw [HLN.out]; exact Nat.le_refl _)
      have hend : unq true l = some (acc, l.drop k) := by rw [HQ.out, hdl, unq_nil]; simp [prep]
      have HEND := Go.Lib.hid hend
      have HDL := Go.Lib.hid hdl
      have hkc : (k : Int) ≤ (cap : Int) := by omega
      have hbd : Build W.heap.size W.heap.size (Lib.byteCells acc) wr.drew := HBU.out
      have HBD := Go.Lib.hid hbd
      clear HNX HHX HUX HBU HQ hend hdl hbd
      by_cases hck : cap = k
      · go_wp2
        go_region_with (go_at_call 17; refine (Tryd.Builder_String_any_k W.heap.size W.heap.size acc _ HBD.out (by simp <;> omega)).mono ?_; rintro e w6 ⟨rfl, _, hbel6, _⟩)
        all_goals (have hb6 : Since W w6 := since_below (hb.drew) hbel6)
        all_goals go_wp2
        all_goals exact ⟨rfl, .tuple #[.string (bs acc), .slice (some ⟨b, o, none⟩) 0 0, .nilIface], by simp [results, Tryd.results10, go_sem] <;> rfl, hb6, .inr ⟨acc, k, 0, 0, some ⟨b, o, none⟩, HEND.out, by rw [HDL.out]; rfl, .inl rfl, rfl⟩⟩
      · go_wp2
        go_region_with (go_at_call 17; refine (Tryd.Builder_String_any_k W.heap.size W.heap.size acc _ HBD.out (by simp <;> omega)).mono ?_; rintro e w6 ⟨rfl, _, hbel6, _⟩)
        all_goals (have hb6 : Since W w6 := since_below (hb.drew) hbel6)
        all_goals go_wp2
        all_goals exact ⟨rfl, .tuple #[.string (bs acc), .slice (some ⟨b, o + k, none⟩) 0 (cap - k), .nilIface], by simp [results, Tryd.results10, go_sem] <;> rfl, hb6, .inr ⟨acc, k, 0, cap - k, some ⟨b, o + k, none⟩, HEND.out, by rw [HDL.out]; rfl, .inl rfl, rfl⟩⟩

end Go.Proofs.YthklhdeegmanbaaDoor.Esc

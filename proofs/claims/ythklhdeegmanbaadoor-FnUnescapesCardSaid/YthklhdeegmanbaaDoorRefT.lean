/-
  The reference's Unescape without (F) and with (T) stars, walked: it answers as the plain reading does.
  Conditions: sizes.
-/
import Derived.Test.YthklhdeegmanbaaDoorRef
import Derived.RegionTactic
import Derived.BigRegion
import Derived.OwnWalk
namespace Go.Proofs.YthklhdeegmanbaaDoor.Esc
open Go Go.ChangeShapes Go.WideShapes Go.ChangeAt Go.RowKit
theorem own_since_true {w w' : World} {base e size n : Nat} {v : Value} {xs : List Value} (h : w.ownsRow base e size v n xs) (k : Since w w') : w'.ownsRow base e size v n xs := by
  refine h.kept (gr_since k) ?_
  cases v.ownBlock
  · exact .inl rfl
  · exact .inr (by simp)

set_option maxRecDepth 100000 in
set_option maxHeartbeats 4000000 in
theorem ref_true (l : Bs) (W : World) (hn2 : l.length ≤ 2000) (hT : Tabs W) (hg : Good l) :
    Calls Tryd.prog 8 #[.string (bs l), .bool true] W (UPost l true W) := by
  obtain ⟨i0, hi0, hz0, hz1, hz2⟩ := info_parts info5
  have HTB := Go.Lib.hid hT
  have HGL := Go.Lib.hid hg
  have hsz := bs_size l
  have HFR := Go.Lib.hid (fun (z : Int) (k : Nat) (hz : z = (k : Int)) (hk : k ≤ l.length) => slice_from l z k hz hk)
  have HMI := Go.Lib.hid (fun (z z' : Int) (k m : Nat) (hz : z = (k : Int)) (hz' : z' = (k : Int) + m) (h : k + m ≤ l.length) => slice_mid l z z' k m hz hz' h)
  have HSI := Go.Lib.hid (fun (i : Nat) (hi : i ≤ l.length) w => size_any l i hn2 hi w)
  clear hT hg
  generalize hln : l.length = n at *
  have HLN := Go.Lib.hid hln
  clear hln
  go_enter Tryd.func8, Tryd.ntmps8
  go_wp2
  go_loopw [7, 8] (fun ov iv wr => RRel l true n W ov iv wr) (fun _ iv _ => n - (intOf iv).toNat)
  case atStart => exact ⟨0, [], rfl, Nat.zero_le _, HGL.out, by rw [List.drop_zero, prep_nil], by simp, World.ownsRow_nil _ _ _ _, Since.refl W⟩
  case round =>
    obtain ⟨k, acc, rfl, hk, hgk, hq, hal, hown, hb⟩ := hrel
    obtain ⟨A, ca, rfl⟩ := own_slice hown
    have HQ := Go.Lib.hid hq
    have HG := Go.Lib.hid hgk
    have HOWN := Go.Lib.hid hown
    have hwsz := hb.size
    clear hq hgk hown
    by_cases hkn : k < n
    · obtain ⟨x, r, hd⟩ : ∃ x r, l.drop k = x :: r := by
        cases h : l.drop k with
        | nil => have := congrArg List.length h; rw [List.length_drop, HLN.out] at this; simp at this; omega
        | cons x r => exact ⟨x, r, rfl⟩
      obtain ⟨hk1, hd1⟩ := drop_cons hd
      rw [HLN.out] at hk1
      have hix := ix l (k : Int) k x rfl (by have := congrArg (·[0]?) hd; simpa using this)
      have hki : (k : Int) < (n : Int) := by omega
      have HD := Go.Lib.hid hd
      have HD1 := Go.Lib.hid hd1
      clear hd hd1
      by_cases h42 : x.toNat = 42
      · rw [h42] at hix
        have HEND := Go.Lib.hid (show unq true l = some (acc, l.drop k) from by rw [HQ.out, HD.out, unq_star h42]; simp [prep])
        have hcv := own_back (w := wr.drew) HOWN.out
        have hsl := HFR.out (k : Int) k rfl hk
        clear HFR HMI HSI HQ HOWN HTB
        go_wp2
        go_region
        all_goals go_wp2
        all_goals exact ⟨rfl, _, by simp [results, Tryd.results8, go_sem] <;> rfl, hb.drew, .inr ⟨acc, l.drop k, HEND.out, rfl⟩⟩
      have b42 : ((x.toNat : Int) == 42) = false := by simp; omega
      by_cases hx : x.toNat = 92
      · have b92 : ((x.toNat : Int) != 92) = false := by simp; omega
        have HSZ := Go.Lib.hid (HSI.out (k + 1) hk1)
        have hS := HSI.out (k + 1) hk1
        rw [HD1.out, show (((k + 1 : Nat)) : Int) = (k : Int) + 1 from by omega] at hS
        have HS := Go.Lib.hid hS
        clear HSI HSZ hS
        go_wp2_with fail
        refine (HS.out _).mono ?_
        rintro e w2 ⟨rfl, rfl⟩
        by_cases h0 : escSize r = 0
        · have HEND := Go.Lib.hid (q_bad HD.out hx HQ.out (size_zero h0))
          rw [h0]
          clear HFR HMI HQ HOWN HTB HS
          go_wp2
          exact ⟨rfl, _, by simp [results, Tryd.results8, go_sem] <;> rfl, hb, .inl ⟨HEND.out, rfl⟩⟩
        cases r with
        | nil => exact absurd rfl h0
        | cons y t =>
          obtain ⟨hk2, hd2⟩ := drop_cons HD1.out
          rw [HLN.out] at hk2
          have HD2 := Go.Lib.hid (show l.drop (k + 2) = t from hd2)
          have hiy := ix l ((k : Int) + 1) (k + 1) y (by omega) (by have := congrArg (·[0]?) HD1.out; simpa using this)
          have h0i : (((escSize (y :: t) : Nat) : Int) == 0) = false := by simp; omega
          by_cases y42 : y.toNat = 42
          · rw [size_simple (.inr (.inr (.inr (.inr (.inr (.inr (.inr y42)))))))]
            rw [y42] at hiy
            have hesc : esc true (y :: t) = _ := (esc_simple (star := true) (y := y) (t := t)).2.2.2.2.2.2.2.2.2 y42
            have HESC := Go.Lib.hid hesc
            clear HFR HMI HTB HS hd2 h0i h0 hesc
            go_wp2_with (first | (at_builtin; go_must (refine wpList_append_seq _ rfl (.tmp 69) (.tmp 70) 28 rfl W.heap.size 5 i0 (.int .u8 0) 1 1 Tryd.underlying28 hi0 hz0 hz1 hz2 rfl (by decide) _ _ _ rfl (HOWN.out.alloc _) (some ⟨w2.heap.size, 0, none⟩) 1 1 [.int .u8 42] rfl (by simpa using lit_seq w2 #[.int .u8 42] 5 (n := 1) (size := 1) rfl) (by simp [Value.oneCell']) (by unfold maxLen; omega) (by omega) (by simp; omega) (by simp) ?_); intro v3 w3 hown3 hgr3 hbl3) | go_in)
            have hb3 : Since W w3 := (hb.alloc _).grown hgr3 (fun j hj => by have := (HOWN.out.lt j hj).1; simpa using this)
            have HREL := Go.Lib.hid (r_esc (z := (k : Int) + 1 + 1) HLN.out HD.out hx HG.out HQ.out hal HESC.out hk2 HD2.out (by omega) (show acc.length + 1 = acc.length + (Lib.runeCells 42).length from rfl) hown3 hb3)
            clear hown3 hgr3 hbl3 HQ HOWN
            go_roundw
            case rel => exact HREL.out
            case measure => simp [intOf]; omega
          have by42 : ((y.toNat : Int) == 42) = false := by simp; omega
          obtain ⟨c, ok, hcall, hesc, hc0, hc1, hle⟩ := esc_val true y t h0 y42
          have HESC := Go.Lib.hid hesc
          have hmi := HMI.out ((k : Int) + 1) ((k : Int) + 1 + (escSize (y :: t) : Nat)) (k + 1) (escSize (y :: t)) (by omega) (by omega) (by have h5 := congrArg List.length HD1.out; rw [List.length_drop, HLN.out] at h5; omega)
          rw [HD1.out] at hmi
          have HCALL := Go.Lib.hid hcall
          have hS2 : k + 1 + escSize (y :: t) ≤ n := by have h5 := congrArg List.length HD1.out; rw [List.length_drop, HLN.out] at h5; omega
          have HDS := Go.Lib.hid (show l.drop (k + 1 + escSize (y :: t)) = (y :: t).drop (escSize (y :: t)) from by rw [← List.drop_drop, HD1.out])
          have hpos : 0 < escSize (y :: t) := by omega
          generalize hSg : escSize (y :: t) = SZ at *
          generalize (y :: t).drop SZ = tl at *
          generalize bs ((y :: t).take SZ) = q at *
          clear HFR HMI HTB HS hd2 h0 hesc hcall hSg hle
          cases ok with
          | false =>
            have HEND := Go.Lib.hid (q_bad HD.out hx HQ.out (HESC.out.trans (if_neg (by simp))))
            go_wp2_with fail
            refine (HCALL.out _).mono ?_
            rintro e w3 ⟨rfl, hs3⟩
            have hb3 := hb.trans hs3
            clear HQ HOWN HESC
            go_wp2
            exact ⟨rfl, _, by simp [results, Tryd.results8, go_sem] <;> rfl, hb3, .inl ⟨HEND.out, rfl⟩⟩
          | true =>
            go_wp2_with fail
            refine (HCALL.out _).mono ?_
            rintro e w3 ⟨rfl, hs3⟩
            have hb3 := hb.trans hs3
            have hsz3 := hb3.size
            have HOWN3 := Go.Lib.hid (own_since_true HOWN.out hs3)
            go_wp2_with fail
            refine (Tryd.utf8_AppendRune_plain W.heap.size _ acc.length (Lib.byteCells acc) c (by omega) (by omega) w3 HOWN3.out (by omega) (by omega)).mono ?_
            rintro e w4 ⟨v4, rfl, hown4, o4, hgr4⟩
            have hb4 : Since W w4 := (hb3.alloc o4).grown hgr4 (fun j hj => by have := (HOWN3.out.lt j hj).1; simpa using this)
            have HREL := Go.Lib.hid (r_esc (z := (k : Int) + 1 + SZ) HLN.out HD.out hx HG.out HQ.out hal (by simpa using HESC.out) hS2 HDS.out (by omega) rfl hown4 hb4)
            clear hown4 hgr4 HQ HOWN HOWN3 HESC
            go_wp2
            go_roundw
            case rel => exact HREL.out
            case measure => simp [intOf]; omega
      · have b92 : ((x.toNat : Int) != 92) = true := by simp; omega
        have hfr := HFR.out (k : Int) k rfl hk
        have hne : x :: r ≠ [] := by simp
        obtain ⟨hdne, _⟩ := good_drop hne (HD.out ▸ HG.out)
        have hwid := Lib.decodeL_width (x :: r)
        have hwle := Lib.decodeL_le (x :: r) hne
        have hl5 := congrArg List.length HD.out
        rw [List.length_drop, HLN.out] at hl5
        have hkd : k + (Lib.decodeL (x :: r)).2 ≤ n := by omega
        have hDC := fun w (hs : Since W w) => Tryd.utf8_DecodeRuneInString (bs (x :: r)) w (tabs_since HTB.out hs)
        rw [decodeGo_bs hne] at hDC
        have hmi := HMI.out (k : Int) ((k : Int) + ((Lib.decodeL (x :: r)).2 : Int)) k (Lib.decodeL (x :: r)).2 rfl rfl (by omega)
        rw [HD.out] at hmi hfr
        have hpl := fun v w' (m : Nat) hm hown hs => r_plain (W := W) (w' := w') (v := v) (m := m) (z := (k : Int) + ((Lib.decodeL (x :: r)).2 : Int)) HLN.out HD.out (by rintro ⟨_, e⟩; exact h42 e) hx HG.out HQ.out hal rfl hm hown hs
        have HPL := Go.Lib.hid hpl
        have HDC := Go.Lib.hid hDC
        have hts : (bs ((x :: r).take (Lib.decodeL (x :: r)).2)).size = (Lib.decodeL (x :: r)).2 := by rw [bs_size, List.length_take]; omega
        generalize bs ((x :: r).take (Lib.decodeL (x :: r)).2) = q at *
        clear hpl hDC HFR HMI HSI HQ HTB hl5 hix
        have hix := ix l (k : Int) k x rfl (by have := congrArg (·[0]?) HD.out; simpa using this)
        generalize (Lib.decodeL (x :: r)) = d at *
        obtain ⟨d1, d2⟩ := d
        simp only at *
        have hcd : ((d1 : Int) == 65533) = false := by simp; omega
        go_wp2_with fail
        refine (HDC.out _ hb).mono ?_
        rintro e w3 ⟨rfl, hs3⟩
        have hb3 := hb.trans hs3
        have hsz3 := hb3.size
        have HOWN3 := Go.Lib.hid (own_since_true HOWN.out hs3)
        go_wp2_with (first | (at_builtin; go_must (refine Lib.wpList_append_own_string _ rfl (.tmp 45) (.tmp 51) 28 9 rfl W.heap.size 5 i0 Tryd.underlying28 Tryd.underlying9 hi0 hz0 hz1 hz2 _ _ _ rfl HOWN3.out q rfl (by unfold maxLen; omega) (by omega) (by omega) ?_); intro v4 w4 hown4 hgr4 hnil4) | go_in)
        have hb4 : Since W w4 := hb3.grown hgr4 (fun j hj => (HOWN3.out.lt j hj).1)
        have HREL := Go.Lib.hid (HPL.out v4 w4 _ rfl hown4 hb4)
        clear hown4 hgr4 hnil4 HOWN HOWN3 HPL
        go_roundw
        case rel => exact HREL.out
        case measure => simp [intOf]; omega
    · obtain rfl : k = n := by omega
      have hdl : l.drop k = [] := List.drop_of_length_le (by rw [HLN.out]; exact Nat.le_refl _)
      have HEND := Go.Lib.hid (show unq true l = some (acc, []) from by rw [HQ.out, hdl, unq_nil]; simp [prep])
      have hcv := own_back (w := wr) HOWN.out
      clear HFR HMI HSI HQ HOWN HTB hdl
      go_wp2
      exact ⟨rfl, _, by simp [results, Tryd.results8, go_sem] <;> rfl, hb, .inr ⟨acc, [], HEND.out, rfl⟩⟩

end Go.Proofs.YthklhdeegmanbaaDoor.Esc

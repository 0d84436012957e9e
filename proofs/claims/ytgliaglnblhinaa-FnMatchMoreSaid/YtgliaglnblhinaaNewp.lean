/-
  The functions NewPattern, pattern and Match of the thin package: the greedy search over the components of pieces.
  Conditions: sizes.
-/
import Derived.Test.YtgliaglnblhinaaMatch
namespace Go.Proofs.Ytgliaglnblhinaa
open Go.ChangeShapes Go.WideShapes Go.ChangeAt Go.RowKit Pat

def itemV : Option Bs → Value
  | none => .iface 47 (.agg #[])
  | some v => .iface 44 (.string (bs v))

/-- The components are a row of the call's own. -/
def Comps (base : Nat) (w : World) (v : Value) (cs : List Comp) : Prop := w.ownsRow base 50 2 v cs.length (flat cs)

theorem flat_snoc (init : List Comp) (c : Comp) : flat (init ++ [c]) = flat init ++ [.bool c.1, .string (bs c.2)] := by simp [flat]

theorem comps_form {base : Nat} {w : World} {v : Value} {cs : List Comp} (h : Comps base w v cs) :
    (cs = [] ∧ ∃ A c, v = .slice A 0 c) ∨ ∃ init c g cap, cs = init ++ [c] ∧ v = .slice (some ⟨g, 0, none⟩) (init.length + 1) cap ∧ base ≤ g ∧ g < w.heap.size ∧
      w.cell? ⟨g, init.length * 2, none⟩ = some (.bool c.1) ∧ w.cell? ⟨g, init.length * 2 + 1, none⟩ = some (.string (bs c.2)) ∧ w.frozen? ⟨g, init.length * 2 + 1, none⟩ = false := by
  rcases List.eq_nil_or_concat cs with rfl | ⟨init, c, rfl⟩
  · refine .inl ⟨rfl, ?_⟩
    rcases h.2 with ⟨rfl, _⟩ | ⟨g, cap, cur, rfl, _⟩
    · exact ⟨_, _, rfl⟩
    · exact ⟨_, _, rfl⟩
  · refine .inr ⟨init, c, ?_⟩
    have h' : w.ownsRow base 50 2 v (init.length + 1) (flat (init ++ [c])) := by simpa [Comps] using h
    have hlt := h'.lt
    rcases h'.2 with ⟨_, h0⟩ | ⟨g, cap, cur, rfl, hg, _⟩
    · omega
    · have hl : (flat init).length = init.length * 2 := flat_len init
      refine ⟨g, cap, by simp, rfl, hg, (hlt g rfl).2, ?_, ?_, h'.frozenAt _⟩
      · rw [h'.cellAt _ (by omega), flat_snoc, List.getElem?_append_right (by omega), hl]; simp
      · rw [h'.cellAt _ (by omega), flat_snoc, List.getElem?_append_right (by omega), hl]; simp

theorem lit_seq (w : World) (cs : Array Value) (t : TypeId) {n size : Nat} (h : cs.size = n * size := by rfl) : Seq (w.alloc (.cells cs t)) size (some ⟨w.heap.size, 0, none⟩) n cs.toList := by
  refine ⟨by simpa using h, .inr ⟨w.heap.size, 0, rfl, fun j u hu => ?_⟩⟩
  rw [World.cell?_alloc_at _ _ _ _ rfl, Nat.zero_add]
  simpa using hu

theorem ta_w9 (w : World) : (Instr.typeAssert (.iface 47 (.agg #[])) 20 9 true).run Try.prog w = .ok (.tuple #[.string ⟨#[]⟩, .bool false]) w := by kernel_rfl
theorem ta_w44 (w : World) : (Instr.typeAssert (.iface 47 (.agg #[])) 20 44 true).run Try.prog w = .ok (.tuple #[.string ⟨#[]⟩, .bool false]) w := by kernel_rfl
theorem ta_w47 (w : World) : (Instr.typeAssert (.iface 47 (.agg #[])) 20 47 true).run Try.prog w = .ok (.tuple #[.agg #[], .bool true]) w := by kernel_rfl
theorem ta_s9 (x : ByteArray) (w : World) : (Instr.typeAssert (.iface 44 (.string x)) 20 9 true).run Try.prog w = .ok (.tuple #[.string ⟨#[]⟩, .bool false]) w := by kernel_rfl
theorem ta_s44 (x : ByteArray) (w : World) : (Instr.typeAssert (.iface 44 (.string x)) 20 44 true).run Try.prog w = .ok (.tuple #[.string x, .bool true]) w := by kernel_rfl
theorem info50 : (Try.prog.info? 50).map (fun i => (i.zero, i.size, i.bytes)) = some (some (.agg #[.bool false, .string ByteArray.empty]), 2, 24) := by kernel_rfl

def NewPost (its : List (Option Bs)) (W : World) (e : Ending) (W' : World) : Prop :=
  ∃ A n cap, e = .returned (.agg #[.slice A n cap]) ∧ Comps W.heap.size W' (.slice A n cap) (its.foldl stepC []) ∧ Since W W'

theorem comps_slice {base : Nat} {w : World} {v : Value} {cs : List Comp} (h : Comps base w v cs) : ∃ A c, v = .slice A cs.length c := by
  rcases h.2 with ⟨rfl, h0⟩ | ⟨g, cap, cur, rfl, _⟩
  · exact ⟨none, 0, by rw [h0]⟩
  · exact ⟨_, _, rfl⟩

theorem new_fin {its : List (Option Bs)} {n : Nat} {cs : List Comp} {W wr : World} {v : Value} (h1 : cs = (its.take n).foldl stepC []) (h2 : its.length = n) (hown : Comps (W.heap.size + 1) wr v cs)
    (hb : Since (W.alloc (.cells #[.slice none 0 0] 41)) wr) (u : Value) : Comps W.heap.size (wr.setCell ⟨W.heap.size, 0, none⟩ u) v (its.foldl stepC []) ∧ Since W (wr.setCell ⟨W.heap.size, 0, none⟩ u) := by
  rw [List.take_of_length_le (by omega)] at h1
  subst h1
  refine ⟨?_, (((Since.refl W).alloc _).trans hb).setCell (Nat.le_refl _) u⟩
  have h3 := ownsRow_setCell_below hown (a := ⟨W.heap.size, 0, none⟩) (by simp) u
  refine ⟨h3.1, ?_⟩
  rcases h3.2 with h | ⟨g, cap, cur, a1, a2, a3⟩
  · exact .inl h
  · exact .inr ⟨g, cap, cur, a1, by omega, a3⟩

theorem new_one (wr : World) : Seq ((wr.alloc (.cells #[] 47)).alloc (.cells #[.bool true, .string ⟨#[]⟩] 50)) 2 (some ⟨wr.heap.size + 1, 0, none⟩) 1 [.bool true, .string ⟨#[]⟩] := by
  have := lit_seq (wr.alloc (.cells #[] 47)) #[.bool true, .string ⟨#[]⟩] 50 (n := 1) (size := 2) rfl
  simpa using this
theorem lit_one : ∀ u ∈ ([.bool true, .string ⟨#[]⟩] : List Value), u.oneCell' = true := by
  intro u hu
  simp at hu
  rcases hu with rfl | rfl <;> rfl

/-- What holds at the head of each round. -/
def NRel (its : List (Option Bs)) (n : Nat) (W : World) (cv iv : Value) (wr : World) : Prop :=
  ∃ (k : Nat) (cs : List Comp), k ≤ n ∧ iv = .int .i64 k ∧ Hid (cs = (its.take k).foldl stepC []) ∧ Comps (W.heap.size + 1) wr cv cs ∧ Hid (∀ c ∈ cs, c.2.length ≤ 20 * k) ∧ Hid (cs.length ≤ k) ∧ Since (W.alloc (.cells #[.slice none 0 0] 41)) wr

theorem step_eq {its : List (Option Bs)} {k : Nat} {it : Option Bs} {cs : List Comp} (h : its[k]? = some it) (hc : cs = (its.take k).foldl stepC []) : stepC cs it = (its.take (k + 1)).foldl stepC [] := by
  have hk : k < its.length := by
    rcases Nat.lt_or_ge k its.length with h1 | h1
    · exact h1
    · rw [List.getElem?_eq_none h1] at h; cases h
  rw [List.take_succ_eq_append_getElem hk, List.foldl_append, ← hc]
  rw [List.getElem?_eq_getElem hk] at h
  injection h with h
  rw [h]; rfl

theorem rel_of {its : List (Option Bs)} {n k : Nat} {W w1 : World} {it : Option Bs} {cs : List Comp} {v : Value} (hk : k < n) (hit : its[k]? = some it) (hc : cs = (its.take k).foldl stepC [])
    (hown : Comps (W.heap.size + 1) w1 v (stepC cs it)) (hl : ∀ c ∈ stepC cs it, c.2.length ≤ 20 * (k + 1)) (hn : (stepC cs it).length ≤ k + 1) (hs : Since (W.alloc (.cells #[.slice none 0 0] 41)) w1) :
    NRel its n W v (.int .i64 ((k : Int) + 1)) w1 :=
  ⟨k + 1, stepC cs it, hk, by go_num, step_eq hit hc, hown, hl, hn, hs⟩

theorem row_ge {base : Nat} {w : World} {v : Value} {cs : List Comp} (h : Comps base w v cs) : ∀ k, v.ownBlock = some k → base ≤ k := fun k hk => (h.lt k hk).1

theorem wildC_skip (init : List Comp) (c : Comp) (h : c.2 = []) : wildC (init ++ [c]) = init ++ [c] := by simp [wildC, h]
theorem wildC_new (init : List Comp) (c : Comp) (h : c.2 ≠ []) : wildC (init ++ [c]) = init ++ [c] ++ [(true, [])] := by simp [wildC, h]

theorem wild_rel {its : List (Option Bs)} {n k : Nat} {W wr w1 : World} {cs : List Comp} {v v' : Value} (hk : k < n) (hit : its[k]? = some none) (hc : cs = (its.take k).foldl stepC [])
    (hw : wildC cs = cs ++ [(true, [])]) (hown : Comps (W.heap.size + 1) wr v cs)
    (hown1 : w1.ownsRow (W.heap.size + 1) 50 2 v' (cs.length + 1) (flat cs ++ [.bool true, .string ⟨#[]⟩]))
    (hgr : ((wr.alloc (.cells #[] 47)).alloc (.cells #[.bool true, .string ⟨#[]⟩] 50)).grownBy w1 v.ownBlock) (hb : Since (W.alloc (.cells #[.slice none 0 0] 41)) wr)
    (hl : ∀ c ∈ cs, c.2.length ≤ 20 * k) (hn : cs.length ≤ k) : NRel its n W v' (.int .i64 ((k : Int) + 1)) w1 := by
  refine rel_of hk hit hc ?_ ?_ ?_ ((((hb.alloc _).alloc _)).grown hgr (fun j hj => by have := row_ge hown j hj; simpa using this))
  · show Comps _ _ _ (wildC cs)
    rw [hw]
    have e : flat (cs ++ [(true, [])]) = flat cs ++ [.bool true, .string ⟨#[]⟩] := flat_snoc cs (true, [])
    unfold Comps
    rw [e, List.length_append]
    exact hown1
  · show ∀ c ∈ wildC cs, _
    rw [hw]
    intro c hc
    rcases List.mem_append.1 hc with h | h
    · have := hl c h; omega
    · simp at h; rw [h]; simp
  · show (wildC cs).length ≤ _
    rw [hw]; simp; exact hn

theorem str_rel {its : List (Option Bs)} {n k : Nat} {W wr : World} {init : List Comp} {c : Comp} {v : Bs} {g c' : Nat} (hk : k < n) (hit : its[k]? = some (some v)) (hc : init ++ [c] = (its.take k).foldl stepC [])
    (hown : Comps (W.heap.size + 1) wr (.slice (some ⟨g, 0, none⟩) (init.length + 1) c') (init ++ [c])) (hb : Since (W.alloc (.cells #[.slice none 0 0] 41)) wr)
    (hl : ∀ d ∈ init ++ [c], d.2.length ≤ 20 * k) (hv : v.length ≤ 20) (hn : (init ++ [c]).length ≤ k) :
    NRel its n W (.slice (some ⟨g, 0, none⟩) (init.length + 1) c') (.int .i64 ((k : Int) + 1)) (wr.setCell ⟨g, init.length * 2 + 1, none⟩ (.string (bs c.2 ++ bs v))) := by
  have hst : strC (init ++ [c]) v = init ++ [(c.1, c.2 ++ v)] := by simp [strC]
  have hg : W.heap.size + 1 ≤ g := row_ge hown g rfl
  refine rel_of hk hit hc ?_ ?_ ?_ (hb.setCell (by simpa using hg) _)
  · show Comps _ _ _ (strC (init ++ [c]) v)
    rw [hst]
    have h' : wr.ownsRow (W.heap.size + 1) 50 2 (.slice (some ⟨g, 0, none⟩) (init.length + 1) c') (init.length + 1) (flat (init ++ [c])) := by simpa [Comps] using hown
    have h2 := (h'.stored (init.length * 2 + 1) (.string (bs c.2 ++ bs v))).1
    have e : (flat (init ++ [c])).set (init.length * 2 + 1) (.string (bs c.2 ++ bs v)) = flat (init ++ [(c.1, c.2 ++ v)]) := by
      rw [flat_snoc, flat_snoc, List.set_append_right _ _ (by rw [flat_len]; omega), flat_len]
      have : init.length * 2 + 1 - init.length * 2 = 1 := by omega
      rw [this]
      have e2 : bs c.2 ++ bs v = bs (c.2 ++ v) := by
        apply ByteArray.ext; simp [bs, ByteArray.data_append]
      rw [e2]
      rfl
    rw [e] at h2
    unfold Comps
    rw [List.length_append]
    exact h2
  · show ∀ d ∈ strC (init ++ [c]) v, _
    rw [hst]
    intro d hd
    rcases List.mem_append.1 hd with h | h
    · have := hl d (List.mem_append_left _ h); omega
    · simp at h; rw [h]
      have := hl c (by simp)
      simp; omega
  · show (strC (init ++ [c]) v).length ≤ _
    rw [hst]; simp at hn ⊢; omega

theorem str_rel0 {its : List (Option Bs)} {n k : Nat} {W wr : World} {v : Bs} (hk : k < n) (hit : its[k]? = some (some v)) (hc : [] = (its.take k).foldl stepC [])
    (hb : Since (W.alloc (.cells #[.slice none 0 0] 41)) wr) (hv : v.length ≤ 20) :
    NRel its n W (.slice (some ⟨wr.heap.size, 0, none⟩) 1 1) (.int .i64 ((k : Int) + 1)) (wr.alloc (.cells #[.bool false, .string (⟨#[]⟩ ++ bs v)] 50)) := by
  have hwsz : W.heap.size + 1 ≤ wr.heap.size := by have := hb.size; simpa using this
  have e2 : (⟨#[]⟩ : ByteArray) ++ bs v = bs v := by
    apply ByteArray.ext; simp [ByteArray.data_append]
  refine rel_of hk hit hc ?_ ?_ ?_ (hb.alloc _)
  · have := World.ownsRow_lit (e := 50) (size := 2) wr #[.bool false, .string (⟨#[]⟩ ++ bs v)] 1 hwsz (by unfold maxLen; omega) rfl
    rw [e2] at this ⊢
    exact this
  · show ∀ d ∈ strC [] v, _
    intro d hd
    simp [strC] at hd
    rw [hd]; simp; omega
  · show (strC [] v).length ≤ _
    simp [strC]

theorem skip_rel {its : List (Option Bs)} {n k : Nat} {W wr : World} {o : Obj} {cs : List Comp} {v : Value} (hk : k < n) (hit : its[k]? = some none) (hc : cs = (its.take k).foldl stepC [])
    (hw : wildC cs = cs) (hown : Comps (W.heap.size + 1) wr v cs) (hb : Since (W.alloc (.cells #[.slice none 0 0] 41)) wr)
    (hl : ∀ c ∈ cs, c.2.length ≤ 20 * k) (hn : cs.length ≤ k) : NRel its n W v (.int .i64 ((k : Int) + 1)) (wr.alloc o) := by
  refine rel_of hk hit hc ?_ ?_ ?_ (hb.alloc _)
  · show Comps _ _ _ (wildC cs)
    rw [hw]
    exact hown.alloc _
  · show ∀ c ∈ wildC cs, _
    rw [hw]
    intro c hc
    have := hl c hc; omega
  · show (wildC cs).length ≤ _
    rw [hw]; omega

set_option maxRecDepth 100000 in
set_option maxHeartbeats 1000000 in
theorem new_any (its : List (Option Bs)) (A : Option Addr) (cap : Nat) (W : World) (hn : its.length ≤ 100) (hl : ∀ v, some v ∈ its → v.length ≤ 20)
    (hseq : Seq W 1 A its.length (its.map itemV)) :
    Calls Try.prog 22 #[.slice A its.length cap] W (NewPost its W) := by
  obtain ⟨i0, hi, hz0, hz1, hz2⟩ := info_parts info50
  generalize hn0 : its.length = n at *
  have HN := Go.Lib.hid hn0
  clear hn0
  go_enter Try.func22, Try.ntmps22
  go_wp2
  go_loopw [3, 12] (fun cv iv wr => NRel its n W cv iv wr)
    (fun _ iv _ => n - (intOf iv).toNat)
  case atStart => exact ⟨0, [], Nat.zero_le _, rfl, rfl, World.ownsRow_nil _ _ _ _, (fun c hc => by simp at hc), Nat.le_refl _, Since.refl _⟩
  case round =>
    obtain ⟨k, cs, hk, rfl, HC, hown, HL, HK, hb⟩ := hrel
    by_cases hkn : k < n
    · obtain ⟨b, o, rfl, hcs⟩ := hseq.at_ (by omega)
      obtain ⟨it, hit⟩ : ∃ it, its[k]? = some it := ⟨_, List.getElem?_eq_getElem (by rw [HN.out]; exact hkn)⟩
      have hc0 : wr.cell? ⟨b, o + k, none⟩ = some (itemV it) := cell_since hb (cell_since ((Since.refl W).alloc _) (hcs k _ (by simp [hit])))
      have hcase := comps_form hown
      cases it with
      | none =>
        dsimp only [itemV] at hc0
        have t1 := ta_w9; have t2 := ta_w44; have t3 := ta_w47
        have hnew := new_one wr
        have hwsz : W.heap.size + 1 ≤ wr.heap.size := by have := hb.size; simpa using this
        have hKl := HK.out
        rcases hcase with ⟨rfl, A', c', rfl⟩ | ⟨init, c, g, c', rfl, rfl, hgb, hgl, hx0, hx1, hxf⟩
        · go_wp2_with (first | (at_builtin; go_must (refine wpList_append_seq _ rfl (.tmp 72) (.tmp 74) 39 rfl (W.heap.size + 1) 50 i0 (.agg #[.bool false, .string ByteArray.empty]) 2 24 Try.underlying39 hi hz0 hz1 hz2 rfl (by decide) _ _ _ rfl ((hown.alloc _).alloc _) (some ⟨wr.heap.size + 1, 0, none⟩) 1 1 [.bool true, .string ⟨#[]⟩] rfl hnew lit_one (by unfold maxLen; omega) (by omega) (by simp; omega) (by simp) ?_); intro v' w1 hown1 hgr hbl) | go_in)
          have hrel := wild_rel hkn hit HC.out rfl hown hown1 hgr hb HL.out HK.out
          have HREL := Go.Lib.hid hrel
          clear hrel hown1 hgr hbl hown hnew hb
          go_roundw
          case rel => exact HREL.out
          case measure => simp [intOf]; omega
        · have hil : init.length + 1 ≤ 100 := by simp at hKl; omega
          by_cases hc2 : c.2 = []
          · have hem : ((bs c.2).toList).isEmpty = true := by rw [bs_empty, hc2]; rfl
            have hrel := skip_rel (o := .cells #[] 47) hkn hit HC.out (wildC_skip init c hc2) hown hb HL.out HK.out
            have HREL := Go.Lib.hid hrel
            have hy := Go.Lib.hid hc2
            have hx0' := cell_since ((Since.refl wr).alloc (.cells #[] 47)) hx0
            have hx1' := cell_since ((Since.refl wr).alloc (.cells #[] 47)) hx1
            clear hrel hown hnew hb hc2
            go_wp2
            go_roundw
            case rel => exact HREL.out
            case measure => simp [intOf]; omega
          · have hem : ((bs c.2).toList).isEmpty = false := by rw [bs_empty]; exact List.isEmpty_eq_false_iff.2 hc2
            have hx0' := cell_since ((Since.refl wr).alloc (.cells #[] 47)) hx0
            have hx1' := cell_since ((Since.refl wr).alloc (.cells #[] 47)) hx1
            have hwc := wildC_new init c hc2
            have HW := Go.Lib.hid hwc
            clear hwc hc2
            have hown' : wr.ownsRow (W.heap.size + 1) 50 2 (.slice (some ⟨g, 0, none⟩) (init.length + 1) c') (init.length + 1) (flat (init ++ [c])) := by simpa [Comps] using hown
            go_wp2_with (first | (at_builtin; go_must (refine wpList_append_seq _ rfl (.tmp 72) (.tmp 74) 39 rfl (W.heap.size + 1) 50 i0 (.agg #[.bool false, .string ByteArray.empty]) 2 24 Try.underlying39 hi hz0 hz1 hz2 rfl (by decide) _ _ _ rfl ((hown'.alloc _).alloc _) (some ⟨wr.heap.size + 1, 0, none⟩) 1 1 [.bool true, .string ⟨#[]⟩] rfl hnew lit_one (by unfold maxLen; omega) (by omega) (by simp; omega) (by simp) ?_); intro v' w1 hown1 hgr hbl) | go_in)
            have hown2 : w1.ownsRow (W.heap.size + 1) 50 2 v' ((init ++ [c]).length + 1) (flat (init ++ [c]) ++ [.bool true, .string ⟨#[]⟩]) := by simpa using hown1
            have hrel := wild_rel hkn hit HC.out HW.out hown hown2 hgr hb HL.out HK.out
            have HREL := Go.Lib.hid hrel
            clear hrel hown1 hown2 hgr hbl hown hown' hnew hb
            go_roundw
            case rel => exact HREL.out
            case measure => simp [intOf]; omega
      | some v =>
        dsimp only [itemV] at hc0
        have t1 := ta_s9; have t2 := ta_s44
        have hKl := HK.out
        have hvl : v.length ≤ 20 := hl v (List.mem_of_getElem? hit)
        have hvs : (bs v).size ≤ 20 := by simpa [bs, ByteArray.size] using hvl
        rcases hcase with ⟨rfl, A', c', rfl⟩ | ⟨init, c, g, c', rfl, rfl, hgb, hgl, hx0, hx1, hxf⟩
        · have hadd := fun wx => run_string_add_sum (P := Try.prog) wx ⟨#[]⟩ (bs v) (by have : (ByteArray.mk #[]).size = 0 := rfl; omega)
          have hrel := str_rel0 hkn hit HC.out hb hvl
          have HREL := Go.Lib.hid hrel
          clear hrel hown hb hcs hseq
          go_wp2
          go_roundw
          case rel => exact HREL.out
          case measure => simp [intOf]; omega
        · have hil : init.length + 1 ≤ 100 := by simp at hKl; omega
          have hcl : c.2.length ≤ 20 * 100 := by have := HL.out c (by simp); omega
          have hcsz : (bs c.2).size ≤ 2000 := by simpa [bs, ByteArray.size] using hcl
          have hadd := fun wx => run_string_add_sum (P := Try.prog) wx (bs c.2) (bs v) (by omega)
          have hrel := str_rel hkn hit HC.out hown hb HL.out hvl HK.out
          have HREL := Go.Lib.hid hrel
          clear hrel hown hb hcs hseq
          go_wp2
          go_roundw
          case rel => exact HREL.out
          case measure => simp [intOf]; omega
    · obtain rfl : k = n := by omega
      have hcell : wr.cell? ⟨W.heap.size, 0, none⟩ = some (.slice none 0 0) := cell_since hb (by rw [World.cell?_alloc_at _ _ _ _ rfl]; rfl)
      have hfz : wr.frozen? ⟨W.heap.size, 0, none⟩ = false := by
        rw [Below.frozen hb (p := ⟨W.heap.size, 0, none⟩) (by simp)]; simp [go_sem]
      obtain ⟨A', c', rfl⟩ := comps_slice hown
      have hfin := new_fin HC.out HN.out hown hb (.slice A' cs.length c')
      have HF := Go.Lib.hid hfin
      have hcell2 : (wr.setCell ⟨W.heap.size, 0, none⟩ (.slice A' cs.length c')).cell? ⟨W.heap.size, 0, none⟩ = some (.slice A' cs.length c') := World.cell?_setCell_same' _ _ _ (by rw [hcell]; rfl)
      clear hfin hown hb
      go_wp2
      simp [bodyPost, results, Try.results22, go_sem, hcell2]
      obtain ⟨q1, q2⟩ := HF.out
      exact ⟨_, _, _, rfl, q1, q2⟩


end Go.Proofs.Ytgliaglnblhinaa

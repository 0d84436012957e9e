/-
  The functions pattern and Match of the thin package, and the law's small helpers.
  Conditions: sizes.
-/
import Derived.Test.YtgliaglnblhinaaNewp
import Derived.Deep.DeepMust
namespace Go.Proofs.Ytgliaglnblhinaa
open Go.ChangeShapes Go.WideShapes Go.ChangeAt Go.RowKit Pat

/-! The function pattern. -/
theorem info20 : (Try.prog.info? 20).map (fun i => (i.zero, i.size, i.bytes)) = some (some .nilIface, 1, 16) := by kernel_rfl

theorem own_slice {w : World} {base e size n : Nat} {v : Value} {xs : List Value} (h : w.ownsRow base e size v n xs) : ∃ A c, v = .slice A n c ∧ (A = none → n = 0 ∧ c = 0) := by
  rcases h.2 with ⟨rfl, rfl⟩ | ⟨g, cap, cur, rfl, _⟩
  · exact ⟨_, _, rfl, fun _ => ⟨rfl, rfl⟩⟩
  · exact ⟨_, _, rfl, fun h => by cases h⟩
theorem seq_one (w : World) (u : Value) (t : TypeId) : Seq (w.alloc (.cells #[u] t)) 1 (some ⟨w.heap.size, 0, none⟩) 1 [u] := lit_seq w #[u] t (n := 1) (size := 1) rfl
theorem item_one (it : Option Bs) : ∀ u ∈ ([itemV it] : List Value), u.oneCell' = true := by
  intro u hu
  simp at hu
  subst hu
  cases it <;> rfl
theorem items_len (n : Nat) (ps : List Bs) (h : ps.length ≤ n) : (items ps).length ≤ 2 * n := by
  have tl : ∀ qs : List Bs, (qs.flatMap tailItems).length ≤ 2 * qs.length := by
    intro qs
    induction qs with
    | nil => simp
    | cons q qs ih =>
      simp only [List.flatMap_cons, List.length_append, List.length_cons]
      have : (tailItems q).length ≤ 2 := by unfold tailItems; split <;> simp
      omega
  cases ps with
  | nil => simp [items]
  | cons p ps =>
    simp only [items, List.length_append]
    have := tl ps
    have : (headItems p).length ≤ 1 := by unfold headItems; split <;> simp
    simp at h
    omega
theorem items_mem {ps : List Bs} (v : Bs) (h : some v ∈ items ps) (hl : ∀ q ∈ ps, q.length ≤ 20) : v.length ≤ 20 := by
  have tl : ∀ qs : List Bs, (∀ q ∈ qs, q.length ≤ 20) → some v ∈ qs.flatMap tailItems → v.length ≤ 20 := by
    intro qs hq h
    rw [List.mem_flatMap] at h
    obtain ⟨q, hq1, hq2⟩ := h
    unfold tailItems at hq2
    split at hq2
    · simp at hq2
    · simp at hq2; rw [hq2]; exact hq q hq1
  cases ps with
  | nil => simp [items] at h
  | cons p ps =>
    simp only [items, List.mem_append] at h
    rcases h with h | h
    · unfold headItems at h
      split at h
      · simp at h
      · simp at h; rw [h]; exact hl p (List.mem_cons_self ..)
    · exact tl ps (fun q hq => hl q (List.mem_cons_of_mem _ hq)) h
theorem take_one {ps : List Bs} {p : Bs} (h : ps[0]? = some p) : ps.take 1 = [p] := by
  cases ps with
  | nil => simp at h
  | cons q qs => simp at h; simp [h]
theorem items_one {ps : List Bs} {p : Bs} (h : ps[0]? = some p) : items (ps.take 1) = headItems p := by
  rw [take_one h]; simp [items]
theorem items_snoc (qs : List Bs) (p : Bs) (h : qs ≠ []) : items (qs ++ [p]) = items qs ++ tailItems p := by
  cases qs with
  | nil => exact absurd rfl h
  | cons q qs => simp [items]
theorem items_more {ps : List Bs} {p : Bs} {k : Nat} (h : ps[k]? = some p) (hk : ¬ k = 0) : items (ps.take (k + 1)) = items (ps.take k) ++ tailItems p := by
  have hl : k < ps.length := by
    rcases Nat.lt_or_ge k ps.length with h1 | h1
    · exact h1
    · rw [List.getElem?_eq_none h1] at h; cases h
  rw [List.take_succ_eq_append_getElem hl]
  rw [List.getElem?_eq_getElem hl] at h
  injection h with h
  rw [h]
  exact items_snoc _ _ (by intro e; have := congrArg List.length e; rw [List.length_take, List.length_nil] at this; omega)

def PRel (ps : List Bs) (n : Nat) (W : World) (ov iv : Value) (wr : World) : Prop :=
  ∃ k : Nat, k ≤ n ∧ iv = .int .i64 k ∧ wr.ownsRow (W.heap.size + 1) 20 1 ov (items (ps.take k)).length ((items (ps.take k)).map itemV) ∧ Since (W.alloc (.cells #[.slice none 0 0] 41)) wr

def PatPost (ps : List Bs) (W : World) (e : Ending) (W' : World) : Prop :=
  ∃ A n cap, e = .returned (.agg #[.slice A n cap]) ∧ Comps W.heap.size W' (.slice A n cap) (comps ps) ∧ Since W W'

theorem pat_fin {W wr w2 : World} {o : Obj} {v : Value} {cs : List Comp} (hb : Since (W.alloc o) wr) (hs : Since wr w2) (h : Comps wr.heap.size w2 v cs) (u : Value) :
    Comps W.heap.size (w2.setCell ⟨W.heap.size, 0, none⟩ u) v cs ∧ Since W (w2.setCell ⟨W.heap.size, 0, none⟩ u) := by
  have hw : W.heap.size < wr.heap.size := by have := hb.size; simp at this; omega
  refine ⟨?_, ((((Since.refl W).alloc o).trans hb).trans hs).setCell (Nat.le_refl _) u⟩
  have h3 := ownsRow_setCell_below h (a := ⟨W.heap.size, 0, none⟩) hw u
  refine ⟨h3.1, ?_⟩
  rcases h3.2 with h | ⟨g, cap, cur, a1, a2, a3⟩
  · exact .inl h
  · exact .inr ⟨g, cap, cur, a1, by omega, a3⟩

set_option maxRecDepth 100000 in
set_option maxHeartbeats 1000000 in
theorem pattern_any (ps : List Bs) (A : Option Addr) (cap : Nat) (W : World) (hn : ps.length ≤ 40) (hl : ∀ v ∈ ps, v.length ≤ 20)
    (hseq : Seq W 1 A ps.length (ps.map fun p => .string (bs p))) :
    Calls Try.prog 19 #[.slice A ps.length cap] W (PatPost ps W) := by
  obtain ⟨i0, hi, hz0, hz1, hz2⟩ := info_parts info20
  generalize hn0 : ps.length = n at *
  have HN := Go.Lib.hid hn0
  clear hn0
  go_enter Try.func19, Try.ntmps19
  go_wp2
  go_loopw [3, 8] (fun ov iv wr => PRel ps n W ov iv wr)
    (fun _ iv _ => n - (intOf iv).toNat)
  case atStart => exact ⟨0, Nat.zero_le _, rfl, World.ownsRow_nil _ _ _ _, Since.refl _⟩
  case round =>
    obtain ⟨k, hk, rfl, hown, hb⟩ := hrel
    by_cases hkn : k < n
    · obtain ⟨b, o, rfl, hcs⟩ := hseq.at_ (by omega)
      obtain ⟨p, hp⟩ : ∃ p, ps[k]? = some p := ⟨_, List.getElem?_eq_getElem (by rw [HN.out]; exact hkn)⟩
      have hc0 : wr.cell? ⟨b, o + k, none⟩ = some (.string (bs p)) := cell_since hb (cell_since ((Since.refl W).alloc _) (hcs k _ (by simp [hp])))
      have hwsz : W.heap.size + 1 ≤ wr.heap.size := by have := hb.size; simpa using this
      have hil : (items (ps.take k)).length ≤ 2 * k := items_len _ _ (by rw [List.length_take]; omega)
      obtain ⟨A', c', rfl, hnil⟩ := own_slice hown
      by_cases hk0 : k = 0
      · subst hk0
        rw [Nat.add_zero] at hc0
        have hown0 : wr.ownsRow (W.heap.size + 1) 20 1 (.slice A' 0 c') 0 [] := hown
        have hL : (items (ps.take 0)).length = 0 := rfl
        rw [hL]
        clear hL hown hil
        by_cases hpe : p = []
        · have hem : ((bs p).toList).isEmpty = true := by rw [bs_empty, hpe]; rfl
          have hrel : PRel ps n W (.slice A' 0 c') (.int .i64 1) wr :=
            ⟨1, hkn, rfl, by rw [items_one hp, hpe]; exact hown0, hb⟩
          have HREL := Go.Lib.hid hrel
          have hy := Go.Lib.hid hpe
          clear hrel hown0 hb hpe hcs hseq
          go_wp2
          go_roundw
          case rel => exact HREL.out
          case measure => simp [intOf]; omega
        · have hem : ((bs p).toList).isEmpty = false := by rw [bs_empty]; exact List.isEmpty_eq_false_iff.2 hpe
          have HP := Go.Lib.hid hpe
          clear hpe
          go_wp2_with (first | (at_builtin; go_must (refine wpList_append_seq _ rfl (.tmp 22) (.tmp 25) 45 rfl (W.heap.size + 1) 20 i0 .nilIface 1 16 Try.underlying45 hi hz0 hz1 hz2 rfl (by decide) _ _ _ rfl (hown0.alloc _) (some ⟨wr.heap.size, 0, none⟩) 1 1 [itemV (some p)] rfl (seq_one wr (itemV (some p)) 20) (item_one _) (by unfold maxLen; omega) (by omega) (by simp; omega) (by simp) ?_); intro v2 w2 hown2 hgr2 hbl2) | go_in)
          have hrel : PRel ps n W v2 (.int .i64 1) w2 := by
            refine ⟨1, hkn, rfl, ?_, (hb.alloc _).grown hgr2 (fun j hj => by have := (hown0.lt j hj).1; simpa using this)⟩
            rw [items_one hp, headItems, if_neg HP.out]
            exact hown2
          have HREL := Go.Lib.hid hrel
          clear hrel hown0 hown2 hgr2 hbl2 hb hcs hseq
          go_roundw
          case rel => exact HREL.out
          case measure => simp [intOf]; omega
      · have hk1 : (0 : Int) < (k : Int) := by omega
        by_cases hpe : p = []
        · have hem : ((bs p).toList).isEmpty = true := by rw [bs_empty, hpe]; rfl
          have HP := Go.Lib.hid hpe
          clear hpe
          go_wp2_with (first | (at_builtin; (refine wpList_append_seq _ rfl (.tmp 15) (.tmp 18) 45 rfl (W.heap.size + 1) 20 i0 .nilIface 1 16 Try.underlying45 hi hz0 hz1 hz2 rfl (by decide) _ _ _ rfl (hown.alloc _) (some ⟨wr.heap.size, 0, none⟩) 1 1 [itemV none] rfl (seq_one wr (itemV none) 20) (item_one _) (by unfold maxLen; omega) (by omega) (by simp; omega) (by simp) ?_); intro v1 w1 hown1 hgr1 hbl1) | go_in)
          have hrel : PRel ps n W v1 (.int .i64 ((k : Int) + 1)) w1 := by
            refine ⟨k + 1, hkn, by go_num, ?_, (hb.alloc _).grown hgr1 (fun j hj => by have := (hown.lt j hj).1; simpa using this)⟩
            rw [items_more hp hk0, tailItems, if_pos HP.out]
            simpa using hown1
          have HREL := Go.Lib.hid hrel
          clear hrel hown hown1 hgr1 hbl1 hb hcs hseq
          go_roundw
          case rel => exact HREL.out
          case measure => simp [intOf]; omega
        · have hem : ((bs p).toList).isEmpty = false := by rw [bs_empty]; exact List.isEmpty_eq_false_iff.2 hpe
          have HP := Go.Lib.hid hpe
          clear hpe
          go_wp2_with (first | (at_builtin; (refine wpList_append_seq _ rfl (.tmp 15) (.tmp 18) 45 rfl (W.heap.size + 1) 20 i0 .nilIface 1 16 Try.underlying45 hi hz0 hz1 hz2 rfl (by decide) _ _ _ rfl (hown.alloc _) (some ⟨wr.heap.size, 0, none⟩) 1 1 [itemV none] rfl (seq_one wr (itemV none) 20) (item_one _) (by unfold maxLen; omega) (by omega) (by simp; omega) (by simp) ?_); intro v1 w1 hown1 hgr1 hbl1) | (at_builtin; go_must (refine wpList_append_seq _ rfl (.tmp 22) (.tmp 25) 45 rfl (W.heap.size + 1) 20 i0 .nilIface 1 16 Try.underlying45 hi hz0 hz1 hz2 rfl (by decide) _ _ _ rfl (hown1.alloc _) (some ⟨w1.heap.size, 0, none⟩) 1 1 [itemV (some p)] rfl (seq_one w1 (itemV (some p)) 20) (item_one _) (by unfold maxLen; omega) (by omega) (by simp; (have := hgr1.size; simp at this; omega)) (by simp) ?_); intro v2 w2 hown2 hgr2 hbl2) | go_in)
          have hw1 : W.heap.size + 1 ≤ w1.heap.size := by have := hgr1.size; simp at this; omega
          have hrel : PRel ps n W v2 (.int .i64 ((k : Int) + 1)) w2 := by
            have hb1 := (hb.alloc (.cells #[itemV none] 20)).grown hgr1 (fun j hj => by have := (hown.lt j hj).1; simpa using this)
            refine ⟨k + 1, hkn, by go_num, ?_, (hb1.alloc _).grown hgr2 (fun j hj => by have := (hown1.lt j hj).1; simpa using this)⟩
            rw [items_more hp hk0, tailItems, if_neg HP.out]
            simpa using hown2
          have HREL := Go.Lib.hid hrel
          clear hrel hown hown1 hgr1 hbl1 hown2 hgr2 hbl2 hb hcs hseq
          go_roundw
          case rel => exact HREL.out
          case measure => simp [intOf]; omega
    · obtain rfl : k = n := by omega
      obtain ⟨A', c', rfl, hnil⟩ := own_slice hown
      have hlen : (items (ps.take k)).length ≤ 100 := by have := items_len k (ps.take k) (by rw [List.length_take]; omega); omega
      have hall : ∀ v, some v ∈ items (ps.take k) → v.length ≤ 20 := fun v hv => items_mem v hv (fun q hq => hl q (List.mem_of_mem_take hq))
      have htk : ps.take k = ps := List.take_of_length_le (by rw [HN.out]; exact Nat.le_refl _)
      have C := new_any (items (ps.take k)) A' c' wr hlen hall (Seq.of_own hown)
      have HC := Go.Lib.hid C
      have HTK := Go.Lib.hid htk
      clear C hlen hall htk hown hnil hseq
      go_wp2_with fail
      refine HC.out.mono ?_
      rintro e w2 ⟨A2, n2, c2, rfl, ho2, hs2⟩
      have hs3 := hb.trans hs2
      have hcell : w2.cell? ⟨W.heap.size, 0, none⟩ = some (.slice none 0 0) := cell_since hs3 (by rw [World.cell?_alloc_at _ _ _ _ rfl]; rfl)
      have hfz : w2.frozen? ⟨W.heap.size, 0, none⟩ = false := by
        rw [Below.frozen hs3 (p := ⟨W.heap.size, 0, none⟩) (by simp)]; simp [go_sem]
      have hcell2 : (w2.setCell ⟨W.heap.size, 0, none⟩ (.slice A2 n2 c2)).cell? ⟨W.heap.size, 0, none⟩ = some (.slice A2 n2 c2) := World.cell?_setCell_same' _ _ _ (by rw [hcell]; rfl)
      have hq := pat_fin hb hs2 ho2 (.slice A2 n2 c2)
      rw [HTK.out] at hq
      have HQ := Go.Lib.hid hq
      clear hq ho2 hs2 hs3 hb
      go_wp2
      simp [bodyPost, results, Try.results19, go_sem, hcell2]
      obtain ⟨q1, q2⟩ := HQ.out
      exact ⟨_, _, _, rfl, q1, q2⟩

/-! Match of the thin package. -/
theorem step_bound (its : List (Option Bs)) (hl : ∀ v, some v ∈ its → v.length ≤ 20) : ∀ (cs : List Comp) (m : Nat), cs.length ≤ m → (∀ c ∈ cs, c.2.length ≤ 20 * m) →
    (its.foldl stepC cs).length ≤ m + its.length ∧ ∀ c ∈ its.foldl stepC cs, c.2.length ≤ 20 * (m + its.length) := by
  induction its with
  | nil => intro cs m h1 h2; exact ⟨h1, h2⟩
  | cons it its ih =>
    intro cs m h1 h2
    have step : (stepC cs it).length ≤ m + 1 ∧ ∀ c ∈ stepC cs it, c.2.length ≤ 20 * (m + 1) := by
      cases it with
      | none =>
        show (wildC cs).length ≤ _ ∧ ∀ c ∈ wildC cs, _
        unfold wildC
        split
        · exact ⟨by simp, fun c hc => by simp at hc; rw [hc]; simp⟩
        · split
          · exact ⟨by omega, fun c hc => by have := h2 c hc; omega⟩
          · refine ⟨by simp; omega, fun c hc => ?_⟩
            rcases List.mem_append.1 hc with h | h
            · have := h2 c h; omega
            · simp at h; rw [h]; simp
      | some v =>
        have hv := hl v (List.mem_cons_self ..)
        show (strC cs v).length ≤ _ ∧ ∀ c ∈ strC cs v, _
        unfold strC
        split
        · exact ⟨by simp, fun c hc => by simp at hc; rw [hc]; simp; omega⟩
        · rename_i c0 hc0
          refine ⟨by simp; omega, fun c hc => ?_⟩
          rcases List.mem_append.1 hc with h | h
          · have := h2 c (List.dropLast_subset _ h); omega
          · simp at h
            have := h2 c0 (List.mem_of_getLast? hc0)
            rw [h]; simp; omega
    have := ih (fun v hv => hl v (List.mem_cons_of_mem _ hv)) (stepC cs it) (m + 1) step.1 step.2
    simp only [List.foldl_cons, List.length_cons]
    rw [show m + (its.length + 1) = m + 1 + its.length by omega]
    exact this

theorem comps_bound (ps : List Bs) (hn : ps.length ≤ 20) (hl : ∀ v ∈ ps, v.length ≤ 20) : (comps ps).length ≤ 100 ∧ ∀ c ∈ comps ps, c.2.length ≤ 1000 := by
  have h := step_bound (items ps) (fun v hv => items_mem v hv hl) [] 0 (Nat.le_refl _) (fun c hc => by simp at hc)
  have hi := items_len ps.length ps (Nat.le_refl _)
  exact ⟨by have := h.1; unfold comps; omega, fun c hc => by have := h.2 c hc; omega⟩

set_option maxHeartbeats 400000 in
theorem implMatch (ps : List Bs) (A : Option Addr) (cap : Nat) (s : ByteArray) (W : World) (hn : ps.length ≤ 20) (hl : ∀ v ∈ ps, v.length ≤ 20) (hs : s.size ≤ 1000)
    (hseq : Seq W 1 A ps.length (ps.map fun p => .string (bs p))) :
    Calls Try.prog 11 #[.slice A ps.length cap, .string s] W (MatchPost (gm (comps ps) s.data.toList) W) := by
  have C1 := pattern_any ps A cap W (by omega) hl hseq
  have hnn := hn
  generalize hpl : ps.length = n at C1 ⊢
  have HPL := Go.Lib.hid hpl
  clear hpl
  go_enter Try.func11, Try.ntmps11
  go_wp2_with fail
  refine C1.mono ?_
  rintro e w1 ⟨A2, n2, c2, rfl, ho2, hs2⟩
  have hn2 : n2 = (comps ps).length := by
    obtain ⟨A3, c3, h3⟩ := comps_slice ho2
    injection h3
  subst hn2
  have hb := comps_bound ps hnn hl
  have C2 := match_any (comps ps) A2 c2 s w1 hb.1 hs hb.2 (Seq.of_own ho2)
  have HC := Go.Lib.hid C2
  clear C1 C2 ho2 hb
  go_wp2_with fail
  refine HC.out.mono ?_
  rintro e w2 ⟨rfl, hs3⟩
  go_wp2_with fail
  go_ret
  exact ⟨rfl, hs2.trans hs3⟩

end Go.Proofs.Ytgliaglnblhinaa

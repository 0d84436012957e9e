/-
  The package's steps over a set of identifiers, walked.
  Conditions: sizes.
-/
import Derived.Test.YtgliaglnblhinaaDoorRef
import Derived.Deep.RegionHeld3
namespace Go.Proofs.YtgliaglnblhinaaDoor.Sets
open Go Go.ChangeShapes Go.WideShapes Go.ChangeAt Go.RowKit Go.Maps

def GPost (u : Uid) (W : World) (e : Ending) (W' : World) : Prop := e = .returned (uval u) ∧ W.grownBy W' none
theorem uid_any (u : Uid) (W : World) : Calls Tryd.prog 17 #[uval u] W (GPost u W) := by
  refine (uid17 u W).mono ?_
  rintro e w ⟨rfl, rfl⟩
  exact ⟨rfl, gr_three W u none⟩

theorem own_cells {w : World} {base e size n : Nat} {v : Value} {xs : List Value} (h : w.ownsRow base e size v n xs) {g : Nat} (hg : v.ownBlock = some g) : base ≤ g ∧ ∃ cs f, w.heap[g]? = some (.cells cs e f) := by
  rcases h.2 with ⟨rfl, _⟩ | ⟨g', cap, cur, rfl, hb, hh, _⟩
  · cases hg
  · simp only [Value.ownBlock, Option.some.injEq] at hg
    subst hg
    exact ⟨hb, _, _, hh⟩
theorem SetAt.gr {w w' : World} {b : Nat} {us : List Uid} {row : Option Nat} (h : SetAt w b us) (hg : w.grownBy w' row) (hm : ∀ b es c, w.heap[b]? = some (.map es c) → row ≠ some b) : SetAt w' b us := by
  obtain ⟨es, c, hb⟩ := h.isMap
  exact h.kept hg (hm b es c hb).symm
theorem HoldsAt.gr {w w' : World} {m : Option Nat} {us : List Uid} {row : Option Nat} (h : HoldsAt w m us) (hg : w.grownBy w' row) (hm : ∀ b es c, w.heap[b]? = some (.map es c) → row ≠ some b) : HoldsAt w' m us := by
  rcases h with h | ⟨b, e, h⟩
  · exact .inl h
  · exact .inr ⟨b, e, h.gr hg hm⟩
theorem MS.gr {base : Nat} {w w' : World} {p : Nat} {us : List Uid} {row : Option Nat} (h : MS base w p us) (hg : w.grownBy w' row) (hp : row ≠ some p) (hm : ∀ b es c, w.heap[b]? = some (.map es c) → row ≠ some b) : MS base w' p us := by
  obtain ⟨m, h1, h2, h3⟩ := h
  exact ⟨m, (hg.block p (Array.getElem?_eq_some_iff.1 h1).1 hp.symm).trans h1, h2.gr hg hm, h3⟩
theorem MS.gr0 {base : Nat} {w w' : World} {p : Nat} {us : List Uid} (h : MS base w p us) (hg : w.grownBy w' none) : MS base w' p us := h.gr hg (by simp) (by simp)
theorem MS.own {base : Nat} {w w' : World} {p : Nat} {us : List Uid} {v : Value} {n size base' : Nat} {xs : List Value} (h : MS base w p us) (hg : w.grownBy w' v.ownBlock) (ho : w.ownsRow base' 3 size v n xs) (hp : p < base') : MS base w' p us := by
  refine h.gr hg (fun e => ?_) (fun b es c hb e => ?_)
  · have := (own_cells ho e).1
    omega
  · obtain ⟨_, cs, f, hh⟩ := own_cells ho e
    rw [hb] at hh
    cases hh
theorem own_map {w w' : World} {base e size n : Nat} {v : Value} {xs : List Value} {row p : Nat} (h : w.ownsRow base e size v n xs) (hg : w.grownBy w' (some row)) (hp : p < base) (hrow : row = p ∨ ∃ es c, w.heap[row]? = some (.map es c)) : w'.ownsRow base e size v n xs := by
  refine h.kept hg ?_
  cases hv : v.ownBlock with
  | none => exact .inl rfl
  | some g =>
    refine .inr fun e => ?_
    injection e with e
    subst e
    obtain ⟨hb, cs, f, hh⟩ := own_cells h hv
    rcases hrow with rfl | ⟨es, c, hm⟩
    · omega
    · rw [hm] at hh
      cases hh
theorem own_gr0 {w w' : World} {base e size n : Nat} {v : Value} {xs : List Value} (h : w.ownsRow base e size v n xs) (hg : w.grownBy w' none) : w'.ownsRow base e size v n xs := by
  refine h.kept hg ?_
  cases v.ownBlock
  · exact .inl rfl
  · exact .inr (by simp)

/-- What a region that only looks holds of the world. -/
def Quiet (wx : World) (m : Option Nat) (us : List Uid) (w : World) : Prop := wx.grownBy w none ∧ HoldsAt w m us
theorem keepQ {wx w w' : World} {m : Option Nat} {us : List Uid} {p c : Nat} {p1 p2 : ByteArray} (g : w.grownBy w' none) (h1 : w.cell? ⟨p, 0, none⟩ = some (.map m)) (h2 : w.cell? ⟨c, 1, none⟩ = some (.string p1)) (h3 : w.cell? ⟨c, 2, none⟩ = some (.string p2)) (h4 : Quiet wx m us w) :
    w'.cell? ⟨p, 0, none⟩ = some (.map m) ∧ w'.cell? ⟨c, 1, none⟩ = some (.string p1) ∧ w'.cell? ⟨c, 2, none⟩ = some (.string p2) ∧ Quiet wx m us w' :=
  ⟨g.cell h1 (by simp), g.cell h2 (by simp), g.cell h3 (by simp), h4.1.trans g, h4.2.gr g (by simp)⟩

def IRel (l : List Step) (n : Nat) (W : World) (ov iv : Value) (wr : World) : Prop :=
  ∃ k : Nat, k ≤ n ∧ iv = .int .i64 k ∧ MS W.heap.size wr W.heap.size (sets [] (l.take k)) ∧ wr.ownsRow (W.heap.size + 1) 3 1 ov k (ints (outs [] (l.take k))) ∧ Since W wr
theorem irel_next {l : List Step} {n k : Nat} {W wr : World} {ov : Value} {x : Step} (hkn : k < n) (hp : l[k]? = some x) {us : List Uid} {z : Int} (hus : us = stepSet (sets [] (l.take k)) x) (hz : z = stepOut (sets [] (l.take k)) x)
    (h1 : MS W.heap.size wr W.heap.size us) (h2 : wr.ownsRow (W.heap.size + 1) 3 1 ov (k + 1) (ints (outs [] (l.take k)) ++ [.int .i64 z])) (h3 : Since W wr) : IRel l n W ov (.int .i64 ((k : Int) + 1)) wr := by
  refine ⟨k + 1, hkn, by go_num, ?_, ?_, h3⟩
  · rw [take_snoc hp, sets_snoc, ← hus]; exact h1
  · rw [take_snoc hp, outs_snoc, ints_snoc, ← hz]; exact h2

set_option maxHeartbeats 2000000 in
theorem got_steps (l : List Step) (A : Option Addr) (cap : Nat) (W : World) (hn : l.length ≤ 200) (hwide : ∀ x ∈ l, Wide x.2) (hseq : Seq W 3 A l.length (stepCells l)) :
    Calls Tryd.prog 9 #[.slice A l.length cap] W (RowPost (outs [] l) W) := by
  obtain ⟨j0, hj, hy0, hy1, hy2⟩ := info_parts info3
  generalize hn0 : l.length = n at *
  have HN := Go.Lib.hid hn0
  have HW := Go.Lib.hid hwide
  clear hn0 hwide
  go_enter Tryd.func9, Tryd.ntmps9
  go_wp2
  go_loopw [4, 11] (fun ov iv wr => IRel l n W ov iv wr) (fun _ iv _ => n - (intOf iv).toNat)
  case atStart => exact ⟨0, Nat.zero_le _, rfl, ⟨none, (MapKept.heap_alloc W _).1, .inl ⟨rfl, rfl⟩, fun _ e => by cases e⟩, World.ownsRow_nil _ _ _ _, (Since.refl _).alloc _⟩
  case round =>
    obtain ⟨k, hk, rfl, hset, hout, hb⟩ := hrel
    have hsl : (sets [] (l.take k)).length ≤ k := Nat.le_trans (sets_len _ _) (by rw [List.length_take]; simp; omega)
    have hplt : W.heap.size < wr.heap.size := by obtain ⟨m, h1, _⟩ := hset; exact (Array.getElem?_eq_some_iff.1 h1).1
    by_cases hkn : k < n
    · obtain ⟨b, o, rfl, hcs⟩ := hseq.at_ (by omega)
      obtain ⟨⟨z, p1, p2⟩, hp⟩ : ∃ p, l[k]? = some p := ⟨_, List.getElem?_eq_getElem (by rw [HN.out]; exact hkn)⟩
      have hu : Wide (p1, p2) := HW.out _ (List.mem_of_getElem? hp)
      obtain ⟨q0, q1, q2⟩ := stepCells_at hp
      have hc0 : wr.cell? ⟨b, o + k * 3, none⟩ = some (.int .i64 z) := cell_since hb (by have := hcs _ _ q0; rwa [Nat.mul_comm] at this)
      have hc1 : wr.cell? ⟨b, o + k * 3 + 1, none⟩ = some (.string p1) := cell_since hb (by have := hcs _ _ q1; rwa [Nat.mul_comm, ← Nat.add_assoc] at this)
      have hc2 : wr.cell? ⟨b, o + k * 3 + 2, none⟩ = some (.string p2) := cell_since hb (by have := hcs _ _ q2; rwa [Nat.mul_comm, ← Nat.add_assoc] at this)
      have hg0 : wr.grownBy (wr.alloc (.cells #[.int .i64 z, .string p1, .string p2] 42)) none := World.grownBy_alloc _ _ _
      have hb' := hb.alloc (.cells #[.int .i64 z, .string p1, .string p2] 42)
      have hset' := hset.gr0 hg0
      have hout' := hout.alloc (.cells #[.int .i64 z, .string p1, .string p2] 42)
      have hx0 : (wr.alloc (.cells #[.int .i64 z, .string p1, .string p2] 42)).cell? ⟨wr.heap.size, 0, none⟩ = some (.int .i64 z) := by rw [World.cell?_alloc_at _ _ _ _ rfl]; rfl
      have hx1 : (wr.alloc (.cells #[.int .i64 z, .string p1, .string p2] 42)).cell? ⟨wr.heap.size, 1, none⟩ = some (.string p1) := by rw [World.cell?_alloc_at _ _ _ _ rfl]; rfl
      have hx2 : (wr.alloc (.cells #[.int .i64 z, .string p1, .string p2] 42)).cell? ⟨wr.heap.size, 2, none⟩ = some (.string p2) := by rw [World.cell?_alloc_at _ _ _ _ rfl]; rfl
      generalize hus : sets [] (l.take k) = us at *
      have HUS := Go.Lib.hid hus
      have HP := Go.Lib.hid hp
      have HSET := Go.Lib.hid hset'
      have HOUT := Go.Lib.hid hout'
      have HB := Go.Lib.hid hb'
      have HX1 := Go.Lib.hid hx1
      have HX2 := Go.Lib.hid hx2
      have HU := Go.Lib.hid hu
      clear hcs q0 q1 q2 hseq hset hout hb hus hp hset' hout' hb' hg0 hx0 hx1 hx2 hu
      by_cases z0 : z = 0
      · subst z0
        go_wp2_with fail
        refine (uid_any (p1, p2) _).mono ?_
        rintro e w2 ⟨rfl, hg2⟩
        have hms2 := HSET.out.gr0 hg2
        have hout2 := own_gr0 HOUT.out hg2
        have hb2 : Since W w2 := HB.out.grown hg2 (fun _ h => by cases h)
        have HM2 := Go.Lib.hid hms2; have HO2 := Go.Lib.hid hout2; have HB2 := Go.Lib.hid hb2
        clear hg2 hms2 hout2 hb2
        go_wp2_with fail
        refine (add_any W.heap.size us (p1, p2) HU.out W.heap.size w2 (Nat.le_refl _) (by unfold maxLen; omega) HM2.out).mono ?_
        rintro e w4 ⟨r, us', rfl, hcase, hms4, row, hg4, hbr, hrow⟩
        have hout4 := own_map HO2.out hg4 (Nat.lt_succ_self _) hrow
        have hb4 : Since W w4 := HB2.out.grown hg4 (fun j h => by injection h with h; omega)
        have HM4 := Go.Lib.hid hms4; have HO4 := Go.Lib.hid hout4; have HB4 := Go.Lib.hid hb4
        clear hms4 hout4 hb4 hg4 hrow
        rcases hcase with ⟨hm, rfl, rfl⟩ | ⟨hm, rfl, rfl⟩
        · skip
          have hszx := (HB4.out).size
          go_wp2_with (first | (at_builtin; go_must (refine wpList_append_seq _ rfl (.tmp 41) (.tmp 43) 25 rfl (W.heap.size + 1) 3 j0 (.int .i64 0) 1 8 Tryd.underlying25 hj hy0 hy1 hy2 rfl (by decide) _ _ _ rfl (HO4.out.alloc _) (some ⟨w4.heap.size, 0, none⟩) 1 1 [.int .i64 0] rfl (by simpa using lit_seq w4 #[.int .i64 0] 3 (n := 1) (size := 1) rfl) (by simp [Value.oneCell']) (by unfold maxLen; omega) (by omega) (by simp; omega) (by simp) ?_); intro v3 w3 hown3 hgr3 hbl3) | go_in)
          have hrel : IRel l n W v3 (.int .i64 ((k : Int) + 1)) w3 := irel_next hkn HP.out (by rw [HUS.out]; simp [stepSet, hm]) (by rw [HUS.out]; simp [stepOut, hm]) (((HM4.out).gr0 (World.grownBy_alloc _ (.cells #[.int .i64 0] 3) none)).own hgr3 (HO4.out.alloc _) (Nat.lt_succ_self _)) hown3 (((HB4.out).alloc _).grown hgr3 (fun j hj => by have := (HO4.out.lt j hj).1; omega))
          have HREL := Go.Lib.hid hrel
          clear hrel hown3 hgr3 hbl3
          go_roundw
          case rel => exact HREL.out
          case measure => simp [intOf]; omega
        · skip
          have hszx := (HB4.out).size
          go_wp2_with (first | (at_builtin; go_must (refine wpList_append_seq _ rfl (.tmp 41) (.tmp 43) 25 rfl (W.heap.size + 1) 3 j0 (.int .i64 0) 1 8 Tryd.underlying25 hj hy0 hy1 hy2 rfl (by decide) _ _ _ rfl (HO4.out.alloc _) (some ⟨w4.heap.size, 0, none⟩) 1 1 [.int .i64 1] rfl (by simpa using lit_seq w4 #[.int .i64 1] 3 (n := 1) (size := 1) rfl) (by simp [Value.oneCell']) (by unfold maxLen; omega) (by omega) (by simp; omega) (by simp) ?_); intro v3 w3 hown3 hgr3 hbl3) | go_in)
          have hrel : IRel l n W v3 (.int .i64 ((k : Int) + 1)) w3 := irel_next hkn HP.out (by rw [HUS.out]; simp [stepSet, hm]) (by rw [HUS.out]; simp [stepOut, hm]) (((HM4.out).gr0 (World.grownBy_alloc _ (.cells #[.int .i64 1] 3) none)).own hgr3 (HO4.out.alloc _) (Nat.lt_succ_self _)) hown3 (((HB4.out).alloc _).grown hgr3 (fun j hj => by have := (HO4.out.lt j hj).1; omega))
          have HREL := Go.Lib.hid hrel
          clear hrel hown3 hgr3 hbl3
          go_roundw
          case rel => exact HREL.out
          case measure => simp [intOf]; omega
      · by_cases z1 : z = 1
        · subst z1
          go_wp2_with fail
          refine (uid_any (p1, p2) _).mono ?_
          rintro e w2 ⟨rfl, hg2⟩
          have hms2 := HSET.out.gr0 hg2
          have hout2 := own_gr0 HOUT.out hg2
          have hb2 : Since W w2 := HB.out.grown hg2 (fun _ h => by cases h)
          have HM2 := Go.Lib.hid hms2; have HO2 := Go.Lib.hid hout2; have HB2 := Go.Lib.hid hb2
          clear hg2 hms2 hout2 hb2
          go_wp2_with fail
          refine (rem_any W.heap.size us (p1, p2) HU.out W.heap.size w2 (Nat.le_refl _) HM2.out).mono ?_
          rintro e w4 ⟨r, rfl, hr, hms4, row, hg4, hbr, hrow⟩
          have hout4 := own_map HO2.out hg4 (Nat.lt_succ_self _) hrow
          have hb4 : Since W w4 := HB2.out.grown hg4 (fun j h => by injection h with h; omega)
          have HM4 := Go.Lib.hid hms4; have HO4 := Go.Lib.hid hout4; have HB4 := Go.Lib.hid hb4; have HR := Go.Lib.hid hr
          clear hms4 hout4 hb4 hg4 hrow hr
          cases r
          · have hm : (p1, p2) ∉ us := fun h => Bool.false_ne_true (HR.out.2 h)
            have hszx := (HB4.out).size
            go_wp2_with (first | (at_builtin; go_must (refine wpList_append_seq _ rfl (.tmp 41) (.tmp 43) 25 rfl (W.heap.size + 1) 3 j0 (.int .i64 0) 1 8 Tryd.underlying25 hj hy0 hy1 hy2 rfl (by decide) _ _ _ rfl (HO4.out.alloc _) (some ⟨w4.heap.size, 0, none⟩) 1 1 [.int .i64 0] rfl (by simpa using lit_seq w4 #[.int .i64 0] 3 (n := 1) (size := 1) rfl) (by simp [Value.oneCell']) (by unfold maxLen; omega) (by omega) (by simp; omega) (by simp) ?_); intro v3 w3 hown3 hgr3 hbl3) | go_in)
            have hrel : IRel l n W v3 (.int .i64 ((k : Int) + 1)) w3 := irel_next hkn HP.out (by rw [HUS.out]; simp [stepSet, hm, less_none hm]) (by rw [HUS.out]; simp [stepOut, hm, less_none hm]) (((HM4.out).gr0 (World.grownBy_alloc _ (.cells #[.int .i64 0] 3) none)).own hgr3 (HO4.out.alloc _) (Nat.lt_succ_self _)) hown3 (((HB4.out).alloc _).grown hgr3 (fun j hj => by have := (HO4.out.lt j hj).1; omega))
            have HREL := Go.Lib.hid hrel
            clear hrel hown3 hgr3 hbl3
            go_roundw
            case rel => exact HREL.out
            case measure => simp [intOf]; omega
          · have hm : (p1, p2) ∈ us := HR.out.1 rfl
            have hszx := (HB4.out).size
            go_wp2_with (first | (at_builtin; go_must (refine wpList_append_seq _ rfl (.tmp 41) (.tmp 43) 25 rfl (W.heap.size + 1) 3 j0 (.int .i64 0) 1 8 Tryd.underlying25 hj hy0 hy1 hy2 rfl (by decide) _ _ _ rfl (HO4.out.alloc _) (some ⟨w4.heap.size, 0, none⟩) 1 1 [.int .i64 1] rfl (by simpa using lit_seq w4 #[.int .i64 1] 3 (n := 1) (size := 1) rfl) (by simp [Value.oneCell']) (by unfold maxLen; omega) (by omega) (by simp; omega) (by simp) ?_); intro v3 w3 hown3 hgr3 hbl3) | go_in)
            have hrel : IRel l n W v3 (.int .i64 ((k : Int) + 1)) w3 := irel_next hkn HP.out (by rw [HUS.out]; simp [stepSet, hm]) (by rw [HUS.out]; simp [stepOut, hm]) (((HM4.out).gr0 (World.grownBy_alloc _ (.cells #[.int .i64 1] 3) none)).own hgr3 (HO4.out.alloc _) (Nat.lt_succ_self _)) hown3 (((HB4.out).alloc _).grown hgr3 (fun j hj => by have := (HO4.out.lt j hj).1; omega))
            have HREL := Go.Lib.hid hrel
            clear hrel hown3 hgr3 hbl3
            go_roundw
            case rel => exact HREL.out
            case measure => simp [intOf]; omega
        · by_cases z2 : z = 2
          · subst z2
            go_wp2
            obtain ⟨m, hpm, hhold, hbase⟩ := HSET.out
            have hS1 := cell_heap hpm
            have hS2 := HX1.out
            have hS3 := HX2.out
            have hQ : Quiet (wr.alloc (.cells #[.int .i64 2, .string p1, .string p2] 42)) m us (wr.alloc (.cells #[.int .i64 2, .string p1, .string p2] 42)) := ⟨World.grownBy.refl _ _, hhold⟩
            clear hpm
            go_region_held3 (fun w' => w'.cell? ⟨W.heap.size, 0, none⟩ = some (.map m) ∧ w'.cell? ⟨wr.heap.size, 1, none⟩ = some (.string p1) ∧ w'.cell? ⟨wr.heap.size, 2, none⟩ = some (.string p2) ∧ Quiet (wr.alloc (.cells #[.int .i64 2, .string p1, .string p2] 42)) m us w')
              (first | exact keepQ (gr_drew _ none) hS1 hS2 hS3 hQ | (go_split_ands; exact keepQ (by assumption) (by assumption) (by assumption) (by assumption) (by assumption)))
              (first | (go_at_call 17; refine (uid_any (p1, p2) _).mono ?_; rintro e w' ⟨rfl, hgx⟩) | (go_at_call 19; refine (con_any us (p1, p2) HU.out m _ (by go_split_ands; exact (by assumption : Quiet _ m us _).2)).mono ?_; rintro e w' ⟨r, rfl, hr, hgx⟩))
            go_split_ands
            have hq : Quiet (wr.alloc (.cells #[.int .i64 2, .string p1, .string p2] 42)) m us w' := by assumption
            have hr' : r = true ↔ (p1, p2) ∈ us := by assumption
            have hms4 := HSET.out.gr0 hq.1
            have hout4 := own_gr0 HOUT.out hq.1
            have hb4 : Since W w' := HB.out.grown hq.1 (fun _ h => by cases h)
            have HM4 := Go.Lib.hid hms4; have HO4 := Go.Lib.hid hout4; have HB4 := Go.Lib.hid hb4; have HR := Go.Lib.hid hr'
            clear hms4 hout4 hb4 hr' hq hQ hS1 hS2 hS3 hhold hbase
            cases r
            · have hm : (p1, p2) ∉ us := fun h => Bool.false_ne_true (HR.out.2 h)
              have hszx := (HB4.out).size
              go_wp2_with (first | (at_builtin; go_must (refine wpList_append_seq _ rfl (.tmp 41) (.tmp 43) 25 rfl (W.heap.size + 1) 3 j0 (.int .i64 0) 1 8 Tryd.underlying25 hj hy0 hy1 hy2 rfl (by decide) _ _ _ rfl (HO4.out.alloc _) (some ⟨w'.heap.size, 0, none⟩) 1 1 [.int .i64 0] rfl (by simpa using lit_seq w' #[.int .i64 0] 3 (n := 1) (size := 1) rfl) (by simp [Value.oneCell']) (by unfold maxLen; omega) (by omega) (by simp; omega) (by simp) ?_); intro v3 w3 hown3 hgr3 hbl3) | go_in)
              have hrel : IRel l n W v3 (.int .i64 ((k : Int) + 1)) w3 := irel_next hkn HP.out (by rw [HUS.out]; simp [stepSet, hm]) (by rw [HUS.out]; simp [stepOut, hm]) (((HM4.out).gr0 (World.grownBy_alloc _ (.cells #[.int .i64 0] 3) none)).own hgr3 (HO4.out.alloc _) (Nat.lt_succ_self _)) hown3 (((HB4.out).alloc _).grown hgr3 (fun j hj => by have := (HO4.out.lt j hj).1; omega))
              have HREL := Go.Lib.hid hrel
              clear hrel hown3 hgr3 hbl3
              go_roundw
              case rel => exact HREL.out
              case measure => simp [intOf]; omega
            · have hm : (p1, p2) ∈ us := HR.out.1 rfl
              have hszx := (HB4.out).size
              go_wp2_with (first | (at_builtin; go_must (refine wpList_append_seq _ rfl (.tmp 41) (.tmp 43) 25 rfl (W.heap.size + 1) 3 j0 (.int .i64 0) 1 8 Tryd.underlying25 hj hy0 hy1 hy2 rfl (by decide) _ _ _ rfl (HO4.out.alloc _) (some ⟨w'.heap.size, 0, none⟩) 1 1 [.int .i64 1] rfl (by simpa using lit_seq w' #[.int .i64 1] 3 (n := 1) (size := 1) rfl) (by simp [Value.oneCell']) (by unfold maxLen; omega) (by omega) (by simp; omega) (by simp) ?_); intro v3 w3 hown3 hgr3 hbl3) | go_in)
              have hrel : IRel l n W v3 (.int .i64 ((k : Int) + 1)) w3 := irel_next hkn HP.out (by rw [HUS.out]; simp [stepSet, hm]) (by rw [HUS.out]; simp [stepOut, hm]) (((HM4.out).gr0 (World.grownBy_alloc _ (.cells #[.int .i64 1] 3) none)).own hgr3 (HO4.out.alloc _) (Nat.lt_succ_self _)) hown3 (((HB4.out).alloc _).grown hgr3 (fun j hj => by have := (HO4.out.lt j hj).1; omega))
              have HREL := Go.Lib.hid hrel
              clear hrel hown3 hgr3 hbl3
              go_roundw
              case rel => exact HREL.out
              case measure => simp [intOf]; omega
          · by_cases z3 : z = 3
            · subst z3
              have hms2 := HSET.out
              obtain ⟨m, hpm, hhold, hbase⟩ := HSET.out
              have hS1 := cell_heap hpm
              clear hpm hms2
              go_wp2_with fail
              refine (len_any us m _ hhold).mono ?_
              rintro e w4 ⟨rfl, hg4⟩
              have hms4 := HSET.out.gr0 hg4
              have hout4 := own_gr0 HOUT.out hg4
              have hb4 : Since W w4 := HB.out.grown hg4 (fun _ h => by cases h)
              have HM4 := Go.Lib.hid hms4; have HO4 := Go.Lib.hid hout4; have HB4 := Go.Lib.hid hb4
              clear hg4 hms4 hout4 hb4 hhold hbase
              have hszx := (HB4.out).size
              go_wp2_with (first | (at_builtin; go_must (refine wpList_append_seq _ rfl (.tmp 41) (.tmp 43) 25 rfl (W.heap.size + 1) 3 j0 (.int .i64 0) 1 8 Tryd.underlying25 hj hy0 hy1 hy2 rfl (by decide) _ _ _ rfl (HO4.out.alloc _) (some ⟨w4.heap.size, 0, none⟩) 1 1 [.int .i64 (us.length : Int)] rfl (by simpa using lit_seq w4 #[.int .i64 (us.length : Int)] 3 (n := 1) (size := 1) rfl) (by simp [Value.oneCell']) (by unfold maxLen; omega) (by omega) (by simp; omega) (by simp) ?_); intro v3 w3 hown3 hgr3 hbl3) | go_in)
              have hrel : IRel l n W v3 (.int .i64 ((k : Int) + 1)) w3 := irel_next hkn HP.out (by rw [HUS.out]; simp [stepSet]) (by rw [HUS.out]; simp [stepOut]) (((HM4.out).gr0 (World.grownBy_alloc _ (.cells #[.int .i64 (us.length : Int)] 3) none)).own hgr3 (HO4.out.alloc _) (Nat.lt_succ_self _)) hown3 (((HB4.out).alloc _).grown hgr3 (fun j hj => by have := (HO4.out.lt j hj).1; omega))
              have HREL := Go.Lib.hid hrel
              clear hrel hown3 hgr3 hbl3
              go_roundw
              case rel => exact HREL.out
              case measure => simp [intOf]; omega
            · skip
              have hszx := (HB.out).size
              go_wp2_with (first | (at_builtin; go_must (refine wpList_append_seq _ rfl (.tmp 41) (.tmp 43) 25 rfl (W.heap.size + 1) 3 j0 (.int .i64 0) 1 8 Tryd.underlying25 hj hy0 hy1 hy2 rfl (by decide) _ _ _ rfl (HOUT.out.alloc _) (some ⟨wr.heap.size + 1, 0, none⟩) 1 1 [.int .i64 0] rfl (by simpa using lit_seq (wr.alloc (.cells #[.int .i64 z, .string p1, .string p2] 42)) #[.int .i64 0] 3 (n := 1) (size := 1) rfl) (by simp [Value.oneCell']) (by unfold maxLen; omega) (by omega) (by simp; omega) (by simp) ?_); intro v3 w3 hown3 hgr3 hbl3) | go_in)
              have hrel : IRel l n W v3 (.int .i64 ((k : Int) + 1)) w3 := irel_next hkn HP.out (by rw [HUS.out]; simp [stepSet, z0, z1, z2, z3]) (by rw [HUS.out]; simp [stepOut, z0, z1, z2, z3]) (((HSET.out).gr0 (World.grownBy_alloc _ (.cells #[.int .i64 0] 3) none)).own hgr3 (HOUT.out.alloc _) (Nat.lt_succ_self _)) hown3 (((HB.out).alloc _).grown hgr3 (fun j hj => by have := (HOUT.out.lt j hj).1; omega))
              have HREL := Go.Lib.hid hrel
              clear hrel hown3 hgr3 hbl3
              go_roundw
              case rel => exact HREL.out
              case measure => simp [intOf]; omega
    · obtain rfl : k = n := by omega
      have htk : l.take k = l := List.take_of_length_le (by rw [HN.out]; exact Nat.le_refl _)
      rw [htk] at hout
      obtain ⟨A2, c2, rfl, _⟩ := own_slice hout
      have H3 : wr.ownsRow W.heap.size 3 1 (.slice A2 k c2) (outs [] l).length (ints (outs [] l)) := by rw [outs_length, HN.out]; exact own_mono hout (Nat.le_succ _)
      have H4 := Go.Lib.hid H3
      clear hset hout htk H3
      go_wp2
      exact ⟨rfl, _, by simp [results, Tryd.results9, go_sem], _, _, _, rfl, H4.out, hb⟩

end Go.Proofs.YtgliaglnblhinaaDoor.Sets

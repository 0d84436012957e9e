/-
  The package's set of identifiers: its methods.
  Conditions: sizes.
-/
import Derived.Test.YtgliaglnblhinaaDoorKey
import Derived.RegionTactic
import Derived.BigRegion
import Derived.WalkSpells
namespace Go.Proofs.YtgliaglnblhinaaDoor.Sets
open Go Go.ChangeShapes Go.WideShapes Go.ChangeAt Go.RowKit Go.Maps

/-- A map's value that holds just us: nil while there are none. -/
def HoldsAt (w : World) (m : Option Nat) (us : List Uid) : Prop := (m = none ∧ us = []) ∨ ∃ b, m = some b ∧ SetAt w b us

theorem HoldsAt.len {w : World} {m : Option Nat} {us : List Uid} (h : HoldsAt w m us) (ty : TypeId) : (Builtin.len_ #[45] ty #[.map m]).run Tryd.prog w = .ok (.int .i64 us.length) w := by
  rcases h with ⟨rfl, rfl⟩ | ⟨b, rfl, h⟩
  · exact Maps.len_nil Tryd.underlying45 ty
  · exact h.len ty
theorem HoldsAt.alloc {w : World} {m : Option Nat} {us : List Uid} (h : HoldsAt w m us) (o : Obj) : HoldsAt (w.alloc o) m us := by
  rcases h with h | ⟨b, e, h⟩
  · exact .inl h
  · exact .inr ⟨b, e, h.alloc o⟩
theorem HoldsAt.drew {w : World} {m : Option Nat} {us : List Uid} (h : HoldsAt w m us) : HoldsAt w.drew m us := h
theorem HoldsAt.look {w : World} {m : Option Nat} {us : List Uid} (h : HoldsAt w m us) {u : Uid} (hw : Wide u) (r : Bool) (hr : r = true ↔ u ∈ us) :
    (Instr.lookup 45 (.map m) (uval u) true).run Tryd.prog w = .ok (.tuple #[.agg #[], .bool r]) w := by
  rcases h with ⟨rfl, rfl⟩ | ⟨b, rfl, h⟩
  · obtain ⟨kl, hk⟩ := key_ex u hw.1 hw.2
    have hr0 : r = false := by
      cases r
      · rfl
      · exact absurd (hr.1 rfl) (by simp)
    subst hr0
    simpa using Maps.look_nil true law52 Tryd.underlying45 (zero68 w) hk
  · obtain ⟨r', hrun, h'⟩ := h.look hw
    have : r' = r := by
      cases r <;> cases r'
      · rfl
      · exact absurd (h'.1 rfl) (fun h => by cases hr.2 h)
      · exact absurd (hr.1 rfl) (fun h => by cases h'.2 h)
      · rfl
    subst this
    exact hrun

def LenPost (us : List Uid) (W : World) (e : Ending) (W' : World) : Prop := e = .returned (.int .i64 us.length) ∧ W.grownBy W' none

theorem len_any (us : List Uid) (m : Option Nat) (W : World) (h : HoldsAt W m us) : Calls Tryd.prog 20 #[.agg #[.map m]] W (LenPost us W) := by
  have h1 := fun ty => (h.alloc (.cells #[.map m] 47)).len ty
  go_enter Tryd.func20, Tryd.ntmps20
  go_wp2
  exact ⟨rfl, _, by simp [results, Tryd.results20, go_sem], rfl, World.grownBy_alloc _ _ _⟩

theorem dec_mem (us : List Uid) (u : Uid) : ∃ r : Bool, r = true ↔ u ∈ us := by
  by_cases h : u ∈ us
  · exact ⟨true, iff_of_true rfl h⟩
  · exact ⟨false, iff_of_false Bool.false_ne_true h⟩

def ConPost (us : List Uid) (u : Uid) (W : World) (e : Ending) (W' : World) : Prop := ∃ r : Bool, e = .returned (.bool r) ∧ (r = true ↔ u ∈ us) ∧ W.grownBy W' none

theorem con_any (us : List Uid) (u : Uid) (hu : Wide u) (m : Option Nat) (W : World) (h : HoldsAt W m us) : Calls Tryd.prog 19 #[.agg #[.map m], uval u] W (ConPost us u W) := by
  obtain ⟨r, hr⟩ := dec_mem us u
  have h1 := ((h.alloc (.cells #[.map m] 47)).alloc (.cells #[.string u.1, .string u.2] 52)).look hu r hr
  have HR := Go.Lib.hid hr
  clear hr
  obtain ⟨u1, u2⟩ := u
  unfold uval at *
  go_enter Tryd.func19, Tryd.ntmps19
  go_wp2
  exact ⟨rfl, _, by simp [results, Tryd.results19, go_sem], _, rfl, HR.out, ((World.grownBy_alloc _ _ _).trans (World.grownBy_alloc _ _ _)).trans (World.grownBy_alloc _ _ _)⟩

/-- The set behind a pointer. -/
def MS (base : Nat) (w : World) (p : Nat) (us : List Uid) : Prop := ∃ m, w.heap[p]? = some (.cells #[.map m] 47 (0, 0)) ∧ HoldsAt w m us ∧ ∀ b, m = some b → base ≤ b

theorem cell_heap {w : World} {p : Nat} {v : Value} {t : TypeId} {f : Nat × Nat} (h : w.heap[p]? = some (.cells #[v] t f)) : w.cell? ⟨p, 0, none⟩ = some v := by
  simp [World.cell?, h]
theorem frozen_heap {w : World} {p : Nat} {cs : Array Value} {t : TypeId} (h : w.heap[p]? = some (.cells cs t (0, 0))) (k : Nat) : w.frozen? ⟨p, k, none⟩ = false := by
  simp [World.frozen?, h]
theorem heap_drew (w : World) (q : Nat) : w.drew.heap[q]? = w.heap[q]? := rfl
theorem hp_alloc {w : World} {o x : Obj} {q : Nat} (h : w.heap[q]? = some x) : (w.alloc o).heap[q]? = some x :=
  ((MapKept.heap_alloc w o).2 q (Array.getElem?_eq_some_iff.1 h).1).trans h

theorem gr_drew (w : World) (row : Option Nat) : w.grownBy w.drew row := ⟨rfl, rfl, rfl, Nat.le_refl _, fun _ _ _ => rfl⟩
theorem gr_set (W : World) (b : Nat) (v : Value) : W.grownBy (W.setCell ⟨b, 0, none⟩ v) (some b) := by
  have h := Below.setCell (Below.refl 0 W) (p := ⟨b, 0, none⟩) (Nat.zero_le _) v
  exact ⟨h.os, h.tape, h.output, h.size, fun k _ hk => Below.heap_setCell _ _ _ _ (fun e => hk (by rw [e]))⟩
theorem gr_fresh {a b c : World} {row : Option Nat} {j : Nat} (h : a.grownBy b row) (k : b.grownBy c (some j)) (hj : a.heap.size ≤ j) : a.grownBy c row :=
  ⟨k.os.trans h.os, k.tape.trans h.tape, k.output.trans h.output, Nat.le_trans h.size k.size, fun i hi hr => (k.block i (Nat.lt_of_lt_of_le hi h.size) (fun e => by injection e; omega)).trans (h.block i hi hr)⟩

def AddPost (base : Nat) (us : List Uid) (u : Uid) (p : Nat) (W : World) (e : Ending) (W' : World) : Prop :=
  ∃ r us', e = .returned (.bool r) ∧ ((u ∈ us ∧ r = false ∧ us' = us) ∨ (u ∉ us ∧ r = true ∧ us' = us ++ [u])) ∧ MS base W' p us' ∧ ∃ row, W.grownBy W' (some row) ∧ base ≤ row ∧ (row = p ∨ ∃ es c, W.heap[row]? = some (.map es c))

set_option maxHeartbeats 400000 in
theorem add_in (base : Nat) (us : List Uid) (u : Uid) (hu : Wide u) (b p : Nat) (W : World) (hbp : base ≤ p) (hbb : base ≤ b) (hn : us.length < maxLen) (hp : W.heap[p]? = some (.cells #[.map (some b)] 47 (0, 0))) (h : SetAt W b us) (hin : u ∈ us) : Calls Tryd.prog 16 #[.pointer (some ⟨p, 0, none⟩), uval u] W (AddPost base us u p W) := by
  have hplt : p < W.heap.size := (Array.getElem?_eq_some_iff.1 hp).1
  have h1 : HoldsAt (W.alloc (.cells #[.string u.1, .string u.2] 52)) (some b) us := .inr ⟨b, rfl, h.alloc _⟩
  have hp1 := hp_alloc (o := .cells #[.string u.1, .string u.2] 52) hp
  have hc1 := cell_heap hp1
  have hp2 := hp_alloc (o := .cells #[] 68) hp1
  have g2 : W.grownBy ((W.alloc (.cells #[.string u.1, .string u.2] 52)).alloc (.cells #[] 68)).drew (some p) := ((World.grownBy_alloc _ _ _).trans (World.grownBy_alloc _ _ _)).trans (gr_drew _ _)
  have h2 : HoldsAt ((W.alloc (.cells #[.string u.1, .string u.2] 52)).alloc (.cells #[] 68)).drew (some b) us := (h1.alloc _).drew
  have L1 := (h1.drew).look hu true (iff_of_true rfl hin)
  have L2 := ((h1.alloc (.cells #[] 68)).drew).look hu true (iff_of_true rfl hin)
  have hc2 := cell_heap hp2
  have qT : ∀ (w : World) (r : Option Nat), (binOp .eql 45 (.map r) (.map none)).run Tryd.prog w = .ok (.bool r.isNone) w := fun w r => run_eql_map_nil w _ _ _ _ Tryd.underlying45
  obtain ⟨u1, u2⟩ := u
  unfold uval at *
  go_enter Tryd.func16, Tryd.ntmps16
  go_wp2
  go_region
  all_goals go_wp2
  all_goals exact ⟨rfl, _, by simp [results, Tryd.results16, go_sem], _, _, rfl, .inl ⟨hin, rfl, rfl⟩, ⟨some b, hp2, h2, fun _ e => by injection e with e; omega⟩, p, g2, hbp, .inl rfl⟩

set_option maxHeartbeats 400000 in
theorem add_out (base : Nat) (us : List Uid) (u : Uid) (hu : Wide u) (b p : Nat) (W : World) (hbp : base ≤ p) (hbb : base ≤ b) (hn : us.length < maxLen) (hp : W.heap[p]? = some (.cells #[.map (some b)] 47 (0, 0))) (h : SetAt W b us) (hout : u ∉ us) : Calls Tryd.prog 16 #[.pointer (some ⟨p, 0, none⟩), uval u] W (AddPost base us u p W) := by
  have hplt : p < W.heap.size := (Array.getElem?_eq_some_iff.1 hp).1
  have h1 : HoldsAt (W.alloc (.cells #[.string u.1, .string u.2] 52)) (some b) us := .inr ⟨b, rfl, h.alloc _⟩
  have hp1 := hp_alloc (o := .cells #[.string u.1, .string u.2] 52) hp
  have hc1 := cell_heap hp1
  have L1 := (h1.drew).look hu false (iff_of_false Bool.false_ne_true hout)
  have L2 := ((h1.alloc (.cells #[] 68)).drew).look hu false (iff_of_false Bool.false_ne_true hout)
  have hp2 := hp_alloc (o := .cells #[] 68) hp1
  have hc2 := cell_heap hp2
  obtain ⟨w', hrun, hset, hg⟩ := (((h.alloc (.cells #[.string u.1, .string u.2] 52)).alloc (.cells #[] 68)).drew).drew.put hn hu hout
  have hp3 : w'.heap[p]? = some (.cells #[.map (some b)] 47 (0, 0)) := by
    have := hg.block p (by simp; omega) (fun e => by
      injection e with e
      subst e
      obtain ⟨es, c, hm⟩ := h.isMap
      rw [hp] at hm
      cases hm)
    rw [this]
    exact hp2
  have g3 : W.grownBy w' (some b) := ((((World.grownBy_alloc _ _ _).trans (World.grownBy_alloc _ _ _)).trans (gr_drew _ _)).trans (gr_drew _ _)).trans hg
  have qT : ∀ (w : World) (r : Option Nat), (binOp .eql 45 (.map r) (.map none)).run Tryd.prog w = .ok (.bool r.isNone) w := fun w r => run_eql_map_nil w _ _ _ _ Tryd.underlying45
  obtain ⟨u1, u2⟩ := u
  unfold uval at *
  go_enter Tryd.func16, Tryd.ntmps16
  go_wp2
  go_region
  all_goals go_wp2
  all_goals go_region
  all_goals go_wp2
  all_goals exact ⟨rfl, _, by simp [results, Tryd.results16, go_sem], _, _, rfl, .inr ⟨hout, rfl, rfl⟩, ⟨some b, hp3, .inr ⟨b, rfl, hset⟩, fun _ e => by injection e with e; omega⟩, b, g3, hbb, .inr h.isMap⟩

set_option maxHeartbeats 400000 in
theorem add_new (base : Nat) (u : Uid) (hu : Wide u) (p : Nat) (W : World) (hbp : base ≤ p) (hp : W.heap[p]? = some (.cells #[.map none] 47 (0, 0))) : Calls Tryd.prog 16 #[.pointer (some ⟨p, 0, none⟩), uval u] W (AddPost base [] u p W) := by
  have hplt : p < W.heap.size := (Array.getElem?_eq_some_iff.1 hp).1
  have hp0 := hp_alloc (o := .cells #[.string u.1, .string u.2] 52) hp
  have hc0 := cell_heap hp0
  have hp1 := hp_alloc (o := .map #[] 0) hp0
  have hc1 := cell_heap hp1
  have hf1 := frozen_heap hp1 0
  have hm := SetAt.made ((W.setCell ⟨p, 0, none⟩ (.map (some (W.heap.size + 1)))).alloc (.cells #[.string u.1, .string u.2] 52))
  have hsz : ((W.setCell ⟨p, 0, none⟩ (.map (some (W.heap.size + 1)))).alloc (.cells #[.string u.1, .string u.2] 52)).heap.size = W.heap.size + 1 := by simp
  rw [hsz] at hm
  have h1 : HoldsAt _ (some (W.heap.size + 1)) [] := .inr ⟨_, rfl, hm⟩
  have hps : (W.setCell ⟨p, 0, none⟩ (.map (some (W.heap.size + 1)))).heap[p]? = some (.cells #[.map (some (W.heap.size + 1))] 47 (0, 0)) := Go.heap_setCell_same _ p 0 _ _ _ hp
  have hp2 := hp_alloc (o := .map #[] 0) (hp_alloc (o := .cells #[.string u.1, .string u.2] 52) hps)
  have hc2 := cell_heap hp2
  have hout : u ∉ ([] : List Uid) := by simp
  have L1 := (h1.drew).look hu false (iff_of_false Bool.false_ne_true hout)
  have L2 := ((h1.alloc (.cells #[] 68)).drew).look hu false (iff_of_false Bool.false_ne_true hout)
  have hp3 := hp_alloc (o := .cells #[] 68) hp2
  have hc3 := cell_heap hp3
  obtain ⟨w', hrun, hset, hg⟩ := ((hm.alloc (.cells #[] 68)).drew).drew.put (by decide) hu hout
  have hp4 : w'.heap[p]? = some (.cells #[.map (some (W.heap.size + 1))] 47 (0, 0)) := by
    have := hg.block p (by simp; omega) (fun e => by injection e; omega)
    rw [this]
    exact hp3
  have g1 : W.grownBy ((((((W.setCell ⟨p, 0, none⟩ (.map (some (W.heap.size + 1)))).alloc (.cells #[.string u.1, .string u.2] 52)).alloc (.map #[] 0)).alloc (.cells #[] 68)).drew).drew) (some p) := (((((gr_set _ _ _).trans (World.grownBy_alloc _ _ _)).trans (World.grownBy_alloc _ _ _)).trans (World.grownBy_alloc _ _ _)).trans (gr_drew _ _)).trans (gr_drew _ _)
  have g3 : W.grownBy w' (some p) := gr_fresh g1 hg (Nat.le_succ _)
  have hmk := fun w => run_makeMap (P := Tryd.prog) 45 w
  have qT : ∀ (w : World) (r : Option Nat), (binOp .eql 45 (.map r) (.map none)).run Tryd.prog w = .ok (.bool r.isNone) w := fun w r => run_eql_map_nil w _ _ _ _ Tryd.underlying45
  obtain ⟨u1, u2⟩ := u
  unfold uval at *
  go_enter Tryd.func16, Tryd.ntmps16
  go_wp2
  go_region
  all_goals go_wp2
  all_goals go_region
  all_goals go_wp2
  all_goals exact ⟨rfl, _, by simp [results, Tryd.results16, go_sem], _, _, rfl, .inr ⟨hout, rfl, rfl⟩, ⟨_, hp4, .inr ⟨_, rfl, hset⟩, fun _ e => by injection e with e; omega⟩, p, g3, hbp, .inl rfl⟩

theorem add_any (base : Nat) (us : List Uid) (u : Uid) (hu : Wide u) (p : Nat) (W : World) (hbp : base ≤ p) (hn : us.length < maxLen) (h : MS base W p us) : Calls Tryd.prog 16 #[.pointer (some ⟨p, 0, none⟩), uval u] W (AddPost base us u p W) := by
  obtain ⟨m, hp, ⟨rfl, rfl⟩ | ⟨b, rfl, h⟩, hb⟩ := h
  · exact add_new base u hu p W hbp hp
  · by_cases hin : u ∈ us
    · exact add_in base us u hu b p W hbp (hb b rfl) hn hp h hin
    · exact add_out base us u hu b p W hbp (hb b rfl) hn hp h hin

def RemPost (base : Nat) (us : List Uid) (u : Uid) (p : Nat) (W : World) (e : Ending) (W' : World) : Prop :=
  ∃ r : Bool, e = .returned (.bool r) ∧ (r = true ↔ u ∈ us) ∧ MS base W' p (less us u) ∧ ∃ row, W.grownBy W' (some row) ∧ base ≤ row ∧ (row = p ∨ ∃ es c, W.heap[row]? = some (.map es c))

set_option maxHeartbeats 400000 in
theorem rem_some (base : Nat) (us : List Uid) (u : Uid) (hu : Wide u) (b p : Nat) (W : World) (hbp : base ≤ p) (hbb : base ≤ b) (hp : W.heap[p]? = some (.cells #[.map (some b)] 47 (0, 0))) (h : SetAt W b us) : Calls Tryd.prog 18 #[.pointer (some ⟨p, 0, none⟩), uval u] W (RemPost base us u p W) := by
  obtain ⟨r, hr⟩ := dec_mem us u
  have hplt : p < W.heap.size := (Array.getElem?_eq_some_iff.1 hp).1
  have h1 : HoldsAt (W.alloc (.cells #[.string u.1, .string u.2] 52)) (some b) us := .inr ⟨b, rfl, h.alloc _⟩
  have hp1 := hp_alloc (o := .cells #[.string u.1, .string u.2] 52) hp
  have hc1 := cell_heap hp1
  have L1 := (h1.drew).look hu r hr
  have L2 := ((h1.alloc (.cells #[] 68)).drew).look hu r hr
  have hp2 := hp_alloc (o := .cells #[] 68) hp1
  have hc2 := cell_heap hp2
  obtain ⟨w', hrun, hset, hg⟩ := (((h.alloc (.cells #[.string u.1, .string u.2] 52)).alloc (.cells #[] 68)).drew).drew.drop hu 0
  have hp3 : w'.heap[p]? = some (.cells #[.map (some b)] 47 (0, 0)) := by
    have := hg.block p (by simp; omega) (fun e => by
      injection e with e
      subst e
      obtain ⟨es, c, hm⟩ := h.isMap
      rw [hp] at hm
      cases hm)
    rw [this]
    exact hp2
  have g3 : W.grownBy w' (some b) := ((((World.grownBy_alloc _ _ _).trans (World.grownBy_alloc _ _ _)).trans (gr_drew _ _)).trans (gr_drew _ _)).trans hg
  obtain ⟨u1, u2⟩ := u
  unfold uval at *
  have HR := Go.Lib.hid hr
  clear hr
  go_enter Tryd.func18, Tryd.ntmps18
  go_wp2
  go_region
  all_goals go_wp2
  all_goals go_region
  all_goals go_wp2
  all_goals exact ⟨rfl, _, by simp [results, Tryd.results18, go_sem], _, rfl, HR.out, ⟨some b, hp3, .inr ⟨b, rfl, hset⟩, fun _ e => by injection e with e; omega⟩, b, g3, hbb, .inr h.isMap⟩

set_option maxHeartbeats 400000 in
theorem rem_none (base : Nat) (u : Uid) (hu : Wide u) (p : Nat) (W : World) (hbp : base ≤ p) (hp : W.heap[p]? = some (.cells #[.map none] 47 (0, 0))) : Calls Tryd.prog 18 #[.pointer (some ⟨p, 0, none⟩), uval u] W (RemPost base [] u p W) := by
  have hplt : p < W.heap.size := (Array.getElem?_eq_some_iff.1 hp).1
  have h1 : HoldsAt (W.alloc (.cells #[.string u.1, .string u.2] 52)) none [] := .inl ⟨rfl, rfl⟩
  have hp1 := hp_alloc (o := .cells #[.string u.1, .string u.2] 52) hp
  have hc1 := cell_heap hp1
  have hout : u ∉ ([] : List Uid) := by simp
  have L1 := (h1.drew).look hu false (iff_of_false Bool.false_ne_true hout)
  have L2 := ((h1.alloc (.cells #[] 68)).drew).look hu false (iff_of_false Bool.false_ne_true hout)
  have hp2 := hp_alloc (o := .cells #[] 68) hp1
  have hc2 := cell_heap hp2
  obtain ⟨kl, hk⟩ := key_ex u hu.1 hu.2
  have hrun := fun w => Maps.drop_nil (w := w) law52 Tryd.underlying45 hk 0
  have g3 : W.grownBy ((((W.alloc (.cells #[.string u.1, .string u.2] 52)).alloc (.cells #[] 68)).drew).drew) (some p) := ((((World.grownBy_alloc _ _ _).trans (World.grownBy_alloc _ _ _)).trans (gr_drew _ _)).trans (gr_drew _ _))
  obtain ⟨u1, u2⟩ := u
  unfold uval at *
  go_enter Tryd.func18, Tryd.ntmps18
  go_wp2
  go_region
  all_goals go_wp2
  all_goals go_region
  all_goals go_wp2
  all_goals exact ⟨rfl, _, by simp [results, Tryd.results18, go_sem], false, rfl, iff_of_false Bool.false_ne_true hout, ⟨none, hp2, .inl ⟨rfl, rfl⟩, fun _ e => by cases e⟩, p, g3, hbp, .inl rfl⟩

theorem rem_any (base : Nat) (us : List Uid) (u : Uid) (hu : Wide u) (p : Nat) (W : World) (hbp : base ≤ p) (h : MS base W p us) : Calls Tryd.prog 18 #[.pointer (some ⟨p, 0, none⟩), uval u] W (RemPost base us u p W) := by
  obtain ⟨m, hp, ⟨rfl, rfl⟩ | ⟨b, rfl, h⟩, hb⟩ := h
  · exact rem_none base u hu p W hbp hp
  · exact rem_some base us u hu b p W hbp (hb b rfl) hp h

def NewPost (u : Uid) (W : World) (e : Ending) (W' : World) : Prop := e = .returned (uval u) ∧ W' = W.alloc (.cells #[.string u.1, .string u.2] 52)
theorem uid26 (u : Uid) (W : World) : Calls Tryd.prog 26 #[.string u.1, .string u.2] W (NewPost u W) := by
  obtain ⟨u1, u2⟩ := u
  go_enter Tryd.func26, Tryd.ntmps26
  go_wp2
  exact ⟨rfl, _, by simp [results, Tryd.results26, go_sem]; rfl, rfl, rfl⟩
def three (W : World) (u : Uid) : World := ((W.alloc (.cells #[.string u.1, .string u.2] 40)).alloc (.cells #[.string u.1, .string u.2] 52)).alloc (.cells #[.string u.1, .string u.2] 52)
theorem gr_three (W : World) (u : Uid) (row : Option Nat) : W.grownBy (three W u) row := ((World.grownBy_alloc _ _ _).trans (World.grownBy_alloc _ _ _)).trans (World.grownBy_alloc _ _ _)
def UidPost (u : Uid) (W : World) (e : Ending) (W' : World) : Prop := e = .returned (uval u) ∧ W' = three W u
theorem uid17 (u : Uid) (W : World) : Calls Tryd.prog 17 #[uval u] W (UidPost u W) := by
  obtain ⟨u1, u2⟩ := u
  unfold uval
  go_enter Tryd.func17, Tryd.ntmps17
  go_wp2_with fail
  refine (uid26 (u1, u2) _).mono ?_
  rintro e w1 ⟨rfl, rfl⟩
  unfold uval
  go_wp2
  exact ⟨rfl, _, by simp [results, Tryd.results17, go_sem]; rfl, rfl, rfl⟩

end Go.Proofs.YtgliaglnblhinaaDoor.Sets

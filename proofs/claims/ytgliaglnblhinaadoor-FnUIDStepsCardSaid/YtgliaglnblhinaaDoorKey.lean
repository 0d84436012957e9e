/-
  The package's set of identifiers: a map keyed by a struct of two strings, as a set.
  Conditions: sizes.
-/
import Derived.Test.YtgliaglnblhinaaDoorFew
import Derived.Maps.OwnSet
import Derived.DeepKeys4
namespace Go.Proofs.YtgliaglnblhinaaDoor.Sets
open Go Go.ChangeShapes Go.WideShapes Go.ChangeAt Go.RowKit Go.Maps

theorem laid0 : laidOutB Tryd.prog = true := by kernel_rfl
theorem row52 : (52 : TypeId) < Tryd.prog.types.size := of_decide_eq_true (by kernel_rfl)
theorem wide52 : (match Tryd.prog.underlying 52 with | some (.array _ _) | some (.struct _) => true | _ => false) = true := by rw [Tryd.underlying52]
theorem law52 : Keyed Tryd.prog 52 := Keyed.of_law (deep_law_laid laid0 (m := 3) (by omega) row52 (by kernel_rfl) wide52)
theorem zero68 (w : World) : (zeroValue 68).run Tryd.prog w = .ok (.agg #[]) w := by kernel_rfl
theorem keyType52 : Tryd.prog.keyType 52 = true := by kernel_rfl
theorem cells52 : Tryd.prog.cellsOf 52 = 2 := by kernel_rfl
theorem cells49 : Tryd.prog.cellsOf 49 = 1 := by kernel_rfl
theorem cells50 : Tryd.prog.cellsOf 50 = 1 := by kernel_rfl
def uval (u : Uid) : Value := .agg #[.string u.1, .string u.2]
theorem key_ex (u : Uid) (h1 : u.1.size ≤ maxLen) (h2 : u.2.size ≤ maxLen) : ∃ kl, keyOf Tryd.prog 52 (uval u) = some kl := by
  obtain ⟨u1, u2⟩ := u
  unfold keyOf uval
  simp only [Tryd.underlying52]
  obtain ⟨m, hm⟩ : ∃ m, Tryd.prog.types.size + 1 = m + 1 + 1 := ⟨Tryd.prog.types.size - 1, by have : 52 < Tryd.prog.types.size := row52; omega⟩
  rw [if_pos (by simp [keyType52, Value.formed, Tryd.underlying52, cells52]), hm]
  unfold Program.keyLits
  simp only [Tryd.underlying52, Value.cells]
  rw [if_pos (by rw [cells52]; exact ⟨rfl, by kernel_rfl⟩)]
  simp [Program.keyLits, Tryd.underlying49, Tryd.underlying50, cells49, cells50, h1, h2]

/-- Sizes that a machine has. -/
def Wide (u : Uid) : Prop := u.1.size ≤ maxLen ∧ u.2.size ≤ maxLen

theorem uval_inj {u v : Uid} (h : uval u = uval v) : u = v := by
  obtain ⟨a, b⟩ := u
  obtain ⟨c, d⟩ := v
  simp [uval] at h
  rw [h.1, h.2]

/-- Block b of w is a map that holds just the identifiers us. -/
def SetAt (w : World) (b : Nat) (us : List Uid) : Prop :=
  us.Nodup ∧ ∃ D, w.ownsMap Tryd.prog 52 (unitElem (H := Unit)) b us.length D ∧ (∀ u kl, keyOf Tryd.prog 52 (uval u) = some kl → (Maps.has D kl = true ↔ u ∈ us)) ∧ Maps.size D = us.length

theorem SetAt.lt {w : World} {b : Nat} {us : List Uid} (h : SetAt w b us) : b < w.heap.size := by
  obtain ⟨_, D, h, _⟩ := h
  exact h.lt
theorem SetAt.made (w : World) : SetAt (w.alloc (.map #[] 0)) w.heap.size [] :=
  ⟨List.Pairwise.nil, .map [], World.ownsMap_made _ _ _ _, fun u kl _ => by simp [Maps.has], rfl⟩
theorem SetAt.kept {w w' : World} {b : Nat} {us : List Uid} {row : Option Nat} (h : SetAt w b us) (hg : w.grownBy w' row) (hne : some b ≠ row) : SetAt w' b us := by
  obtain ⟨h0, D, h1, h2⟩ := h
  exact ⟨h0, D, h1.kept hg hne, h2⟩
theorem SetAt.isMap {w : World} {b : Nat} {us : List Uid} (h : SetAt w b us) : ∃ es clock, w.heap[b]? = some (.map es clock) := by
  obtain ⟨_, D, ⟨es, clock, hb, _⟩, _⟩ := h
  exact ⟨es, clock, hb⟩
theorem SetAt.alloc {w : World} {b : Nat} {us : List Uid} (h : SetAt w b us) (o : Obj) : SetAt (w.alloc o) b us := h.kept (World.grownBy_alloc w o none) (by simp)
theorem SetAt.drew {w : World} {b : Nat} {us : List Uid} (h : SetAt w b us) : SetAt w.drew b us := h
theorem SetAt.setCell {w : World} {b : Nat} {us : List Uid} (h : SetAt w b us) {a : Addr} (ha : b ≠ a.block) (u : Value) : SetAt (w.setCell a u) b us := by
  obtain ⟨h0, D, h1, h2⟩ := h
  exact ⟨h0, D, h1.setCell ha u, h2⟩

theorem key_ne {u v : Uid} {k l : Lit} (hu : keyOf Tryd.prog 52 (uval u) = some k) (hv : keyOf Tryd.prog 52 (uval v) = some l) (h : u ≠ v) : k ≠ l := by
  rintro rfl
  exact h (uval_inj (law52.inj hu hv))

theorem mem_less {us : List Uid} {u x : Uid} : x ∈ less us u ↔ x ∈ us ∧ x ≠ u := by
  obtain ⟨a, b⟩ := x
  obtain ⟨c, d⟩ := u
  simp only [less, List.mem_filter, Bool.not_eq_true', Bool.and_eq_false_iff, beq_eq_false_iff_ne, ne_eq, Prod.mk.injEq, not_and]
  refine and_congr_right fun _ => ⟨?_, fun h => ?_⟩
  · rintro (h | h) e
    · exact absurd (by rw [e]) h
    · exact fun e2 => h (by rw [e2])
  · by_cases e : a.toList = c.toList
    · right
      intro e2
      rw [ByteArray.toList_eq, ByteArray.toList_eq] at e e2
      exact h (ByteArray.ext (Array.toList_inj.1 e)) (ByteArray.ext (Array.toList_inj.1 e2))
    · exact .inl e
theorem nodup_less {us : List Uid} (h : us.Nodup) (u : Uid) : (less us u).Nodup := h.sublist List.filter_sublist
theorem less_none {us : List Uid} {u : Uid} (h : u ∉ us) : less us u = us := by
  refine List.filter_eq_self.2 fun x hx => ?_
  have := (mem_less (us := us) (u := u) (x := x)).2 ⟨hx, fun e => h (e ▸ hx)⟩
  exact (List.mem_filter.1 this).2
theorem length_less {us : List Uid} {u : Uid} (hn : us.Nodup) (h : u ∈ us) : (less us u).length + 1 = us.length := by
  induction us with
  | nil => cases h
  | cons x us ih =>
    rw [List.nodup_cons] at hn
    by_cases e : x = u
    · subst e
      have hx : less (x :: us) x = less us x := by simp [less]
      rw [hx, less_none hn.1]
      rfl
    · have hm : u ∈ us := by
        rcases List.mem_cons.1 h with h | h
        · exact absurd h.symm e
        · exact h
      have hx : less (x :: us) u = x :: less us u := by
        have hp := (List.mem_filter.1 ((mem_less (us := [x]) (u := u) (x := x)).2 ⟨List.mem_cons_self, e⟩)).2
        unfold less
        exact List.filter_cons_of_pos (p := fun x : Uid => !(x.1.toList == u.1.toList && x.2.toList == u.2.toList)) hp
      rw [hx]
      simp [ih hn.2 hm]

/-- The look-up, with 'ok'. -/
theorem SetAt.look {w : World} {b : Nat} {us : List Uid} (h : SetAt w b us) {u : Uid} (hw : Wide u) :
    ∃ r : Bool, (Instr.lookup 45 (.map (some b)) (uval u) true).run Tryd.prog w = .ok (.tuple #[.agg #[], .bool r]) w ∧ (r = true ↔ u ∈ us) := by
  obtain ⟨_, D, h1, h2, _⟩ := h
  obtain ⟨kl, hk⟩ := key_ex u hw.1 hw.2
  obtain ⟨v, ps, hrun, hv⟩ := h1.look_ok law52 Tryd.underlying45 (zero68 w) unitElem_mk hk
  obtain ⟨rfl, _⟩ := unitElem_inv hv
  exact ⟨_, hrun, h2 u kl hk⟩

theorem SetAt.put {w : World} {b : Nat} {us : List Uid} (h : SetAt w b us) (hn : us.length < maxLen) {u : Uid} (hw : Wide u) (hu : u ∉ us) :
    ∃ w', (Instr.mapUpdate 45 (.map (some b)) (uval u) (.agg #[])).run Tryd.prog w = .ok () w' ∧ SetAt w' b (us ++ [u]) ∧ w.grownBy w' (some b) := by
  obtain ⟨h0, D, h1, h2, h3⟩ := h
  obtain ⟨kl, hk⟩ := key_ex u hw.1 hw.2
  obtain ⟨w', hrun, hown, hg⟩ := h1.update law52 Tryd.underlying45 hn hk unitElem_mk
  have hD : Maps.has D kl = false := by
    cases e : Maps.has D kl
    · rfl
    · exact absurd ((h2 u kl hk).1 e) hu
  refine ⟨w', hrun, ⟨?_, D.put kl (.agg []), by simpa using hown, fun v l hl => ?_, ?_⟩, hg⟩
  · rw [List.nodup_append]
    exact ⟨h0, by simp, fun a ha b hb => by simp at hb; rintro rfl; exact hu (hb ▸ ha)⟩
  · by_cases e : v = u
    · subst e
      obtain rfl : kl = l := by rw [hk] at hl; injection hl
      simp [Maps.has_put_same h1.isMap (law52.key hk)]
    · rw [Maps.has_put_other (key_ne hl hk e), h2 v l hl]
      simp [e]
  · rw [Maps.size_put (h1.tidy law52), hD, h3]
    simp

theorem SetAt.drop {w : World} {b : Nat} {us : List Uid} (h : SetAt w b us) {u : Uid} (hw : Wide u) (ty : TypeId) :
    ∃ w', (Builtin.delete_ #[45, 52] ty #[.map (some b), uval u]).run Tryd.prog w = .ok (.tuple #[]) w' ∧ SetAt w' b (less us u) ∧ w.grownBy w' (some b) := by
  obtain ⟨h0, D, h1, h2, h3⟩ := h
  obtain ⟨kl, hk⟩ := key_ex u hw.1 hw.2
  obtain ⟨w', hrun, hown, ht⟩ := h1.drop law52 Tryd.underlying45 hk ty
  have hsz := Maps.size_del (k := kl) (h1.tidy law52)
  have hsz2 : Maps.size (D.del kl) = (less us u).length := by
    by_cases hm : u ∈ us
    · rw [(h2 u kl hk).2 hm, h3] at hsz
      have := length_less h0 hm
      simp at hsz
      omega
    · have : Maps.has D kl = false := by
        cases e : Maps.has D kl
        · rfl
        · exact absurd ((h2 u kl hk).1 e) hm
      rw [this, h3] at hsz
      rw [less_none hm]
      simpa using hsz
  refine ⟨w', hrun, ⟨nodup_less h0 u, D.del kl, ?_, fun v l hl => ?_, hsz2⟩, ht.grown⟩
  · obtain ⟨es, clock, a1, a2, a3, a4⟩ := hown
    refine ⟨es, clock, a1, a2, ?_, a4⟩
    rw [← hsz2, a4]
    simp [Maps.size, length_sorted]
  · rw [mem_less]
    by_cases e : v = u
    · subst e
      obtain rfl : kl = l := by rw [hk] at hl; injection hl
      simp [Maps.has_del_same]
    · rw [Maps.has_del_other (key_ne hl hk e), h2 v l hl]
      simp [e]

theorem SetAt.len {w : World} {b : Nat} {us : List Uid} (h : SetAt w b us) (ty : TypeId) : (Builtin.len_ #[45] ty #[.map (some b)]).run Tryd.prog w = .ok (.int .i64 us.length) w := by
  obtain ⟨_, D, h1, _, h3⟩ := h
  rw [← h3]
  exact h1.len Tryd.underlying45 ty

end Go.Proofs.YtgliaglnblhinaaDoor.Sets

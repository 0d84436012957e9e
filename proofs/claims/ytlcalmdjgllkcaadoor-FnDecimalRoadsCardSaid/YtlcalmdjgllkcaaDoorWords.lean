/-
  Words for memory: a slice that reads as a list of values, nil let in; append of such a slice onto a row of the call's own.
  Conditions: none.
-/
import Derived.Test.YtlcalmdjgllkcaaDoorRows
import Derived.Below
import Derived.Laws.OwnMore
import Derived.Laws.Rows
import Derived.Maps.AppendAt
import Derived.Deep.AppendLies
import Derived.Deep.Draws
import Derived.RegionTactic
import Derived.OwnWalk
namespace Go.Proofs.YtlcalmdjgllkcaaDoor.Dec
open Go.RowKit

/-- Nothing that was there when W0 stood has turned in w. -/
def Since (W0 w : World) : Prop := Below W0.heap.size W0 w
theorem Since.refl (w : World) : Since w w := Below.refl _ _
theorem Since.step {W0 w w' : World} (h : Since W0 w) (k : Below w.heap.size w w') : Since W0 w' := h.trans (k.mono h.size)
theorem Since.trans {W0 w w' : World} (h : Since W0 w) (k : Since w w') : Since W0 w' := h.step k
theorem Since.alloc {W0 w : World} (h : Since W0 w) (o : Obj) : Since W0 (w.alloc o) := Below.alloc h h.size o
theorem Since.drew {W0 w : World} (h : Since W0 w) : Since W0 w.drew := Below.drew h
theorem Since.drewN {W0 w : World} (h : Since W0 w) (n : Nat) : Since W0 (w.drewN n) := by
  induction n with
  | zero => exact h
  | succ n ih => exact ih.drew
theorem Since.setCell {W0 w : World} (h : Since W0 w) {p : Addr} (hp : W0.heap.size ≤ p.block) (u : Value) : Since W0 (w.setCell p u) := Below.setCell h hp u
theorem Since.grown {W0 w w' : World} (h : Since W0 w) {row : Option Nat} (hg : w.grownBy w' row) (hr : ∀ k, row = some k → W0.heap.size ≤ k) : Since W0 w' := Below.grown h hg h.size hr

theorem cell_since {w w' : World} (h : Since w w') {b o : Nat} {v : Value} (hc : w.cell? ⟨b, o, none⟩ = some v) : w'.cell? ⟨b, o, none⟩ = some v :=
  (Below.cell h (p := ⟨b, o, none⟩) (World.block_lt_of_cell? _ _ hc)).trans hc

/-- A slice value of n elements of so many cells each leads to the cells xs. -/
def Seq (w : World) (size : Nat) (A : Option Addr) (n : Nat) (xs : List Value) : Prop :=
  xs.length = n * size ∧ (n = 0 ∨ ∃ b o, A = some ⟨b, o, none⟩ ∧ ∀ j u, xs[j]? = some u → w.cell? ⟨b, o + j, none⟩ = some u)

theorem Seq.nil (w : World) (size : Nat) (A : Option Addr) : Seq w size A 0 [] := ⟨by simp, .inl rfl⟩
theorem Seq.at_ {w : World} {size : Nat} {A : Option Addr} {n : Nat} {xs : List Value} (h : Seq w size A n xs) (hn : 0 < n) :
    ∃ b o, A = some ⟨b, o, none⟩ ∧ ∀ j u, xs[j]? = some u → w.cell? ⟨b, o + j, none⟩ = some u := by
  rcases h.2 with h0 | h0
  · omega
  · exact h0
theorem Seq.since {w w' : World} {size : Nat} {A : Option Addr} {n : Nat} {xs : List Value} (h : Seq w size A n xs) (k : Since w w') : Seq w' size A n xs := by
  refine ⟨h.1, ?_⟩
  rcases h.2 with h0 | ⟨b, o, e, hc⟩
  · exact .inl h0
  · exact .inr ⟨b, o, e, fun j u hu => cell_since k (hc j u hu)⟩
theorem Seq.setCell {w : World} {size : Nat} {A : Option Addr} {n : Nat} {xs : List Value} (h : Seq w size A n xs) {p : Addr} (u : Value) (hp : ∀ b o, A = some ⟨b, o, none⟩ → b ≠ p.block) : Seq (w.setCell p u) size A n xs := by
  refine ⟨h.1, ?_⟩
  rcases h.2 with h0 | ⟨b, o, e, hc⟩
  · exact .inl h0
  · refine .inr ⟨b, o, e, fun j v hv => ?_⟩
    rw [World.cell?_setCell_other _ _ _ _ (fun e2 => hp b o e (by rw [e2]))]
    exact hc j v hv
theorem Seq.of_own {w : World} {base e size n c : Nat} {A : Option Addr} {xs : List Value} (h : w.ownsRow base e size (.slice A n c) n xs) : Seq w size A n xs := by
  refine ⟨h.1, ?_⟩
  rcases h.2 with ⟨h0, hn⟩ | ⟨g, cap, cur, hv, _⟩
  · exact .inl hn
  · have hA : A = some ⟨g, 0, none⟩ := by injection hv
    subst hA
    refine .inr ⟨g, 0, rfl, fun j u hu => ?_⟩
    have := h.cells (g := g) rfl j u hu
    have e : (⟨g, 0, none⟩ : Addr).add j = ⟨g, 0 + j, none⟩ := by unfold Addr.add; split <;> simp_all
    rw [e] at this
    exact this
theorem addr_add (b o k : Nat) : (⟨b, o, none⟩ : Addr).add k = ⟨b, o + k, none⟩ := by unfold Addr.add; split <;> simp_all

/-- A cut from k on. -/
theorem Seq.cut {w : World} {size : Nat} {A : Option Addr} {n cap k : Nat} {xs : List Value} (h : Seq w size A n xs) (hk : k ≤ n) (hc : n ≤ cap) :
    Seq w size (if cap = k then A else A.map (·.add (k * size))) (n - k) (xs.drop (k * size)) := by
  refine ⟨by rw [List.length_drop, h.1, Nat.sub_mul], ?_⟩
  by_cases hz : n - k = 0
  · exact .inl hz
  · obtain ⟨b, o, rfl, hcell⟩ := h.at_ (by omega)
    rw [if_neg (by omega)]
    refine .inr ⟨b, o + k * size, by simp [addr_add], fun j u hu => ?_⟩
    rw [List.getElem?_drop] at hu
    have := hcell _ u hu
    rw [Nat.add_assoc]
    exact this
/-- A cut up to k. -/
theorem Seq.upto {w : World} {size : Nat} {A : Option Addr} {n k : Nat} {xs : List Value} (h : Seq w size A n xs) (hk : k ≤ n) : Seq w size A k (xs.take (k * size)) := by
  have hl := h.1
  refine ⟨by rw [List.length_take, hl]; exact Nat.min_eq_left (Nat.mul_le_mul_right _ hk), ?_⟩
  rcases h.2 with h0 | ⟨b, o, e, hc⟩
  · exact .inl (by omega)
  · refine .inr ⟨b, o, e, fun j u hu => hc j u ?_⟩
    rw [List.getElem?_take] at hu
    split at hu
    · exact hu
    · cases hu

section
variable {P : Program} (w : World)

theorem run_append_seq (base : Nat) (t ty e : TypeId) (i : TypeInfo) (z : Value) (size bytes : Nat) (ht : P.underlying t = some (.slice e)) (hi : P.info? e = some i) (hz : i.zero = some z)
    (hsize : i.size = size) (hby : i.bytes = bytes) (hzs : z.cells.size = size) (hsz : 0 < size)
    (v : Value) (n : Nat) (xs : List Value) (hown : w.ownsRow base e size v n xs)
    (A : Option Addr) (m c : Nat) (news : List Value) (hr : Seq w size A m news) (h1 : ∀ u ∈ news, u.oneCell' = true)
    (h63 : n + m ≤ maxLen) (hbytes : (n + m) * bytes ≤ 140737488355328) (hbase : base ≤ w.heap.size) (hA : A = none → m = 0 ∧ c = 0) :
    ∃ v' w', (Builtin.append_ #[t, t] ty #[v, .slice A m c]).run P w = .ok v' w' ∧ w'.ownsRow base e size v' (n + m) (xs ++ news) ∧ w.grownBy w' v.ownBlock ∧
      (v'.ownBlock = v.ownBlock ∨ v'.ownBlock = some w.heap.size) := by
  rcases A with _ | ad
  · obtain ⟨rfl, rfl⟩ := hA rfl
    have hn : news = [] := List.eq_nil_of_length_eq_zero (by simpa using hr.1)
    subst hn
    refine ⟨v, w, ?_, by simpa using hown, World.grownBy.refl w _, .inl rfl⟩
    rcases hown.2 with ⟨rfl, rfl⟩ | ⟨g, cap, cur, rfl, _, _, hnc, _⟩
    · simp [Builtin.append_, run_underlying ht, sizeOf, typeInfo, hi, Builtin.lenOf, Builtin.firstCells]
    · simp [Builtin.append_, run_underlying ht, sizeOf, typeInfo, hi, Builtin.lenOf, Builtin.firstCells, hnc, storeCells]
  · have hcells : ∀ j u, news[j]? = some u → w.cell? (ad.add j) = some u := by
      intro j u hu
      rcases hr.2 with h0 | ⟨b, o, e1, hc⟩
      · subst h0
        have hn : news = [] := List.eq_nil_of_length_eq_zero (by simpa using hr.1)
        subst hn
        simp at hu
      · injection e1 with e1
        subst e1
        rw [addr_add]
        exact hc j u hu
    obtain ⟨v', w', hrun, h2, h3, _, h5⟩ := run_append_own_at (P := P) w base t ty e i z size bytes ht hi hz hsize hby hzs hsz v n xs hown ad m c news hr.1 hcells h1 h63 hbytes hbase
    exact ⟨v', w', hrun, h2, h3, h5⟩

theorem wp_append_seq {o : Oper} {a : Act} {K : Act → World → Prop} {Q : Exit → Act → World → Prop} (s x : Operand) (t : TypeId)
    (ho : o.op = .call { callee := .builtin .append, args := #[s, x], argTypes := #[t, t] })
    (base : Nat) (e : TypeId) (i : TypeInfo) (z : Value) (size bytes : Nat) (ht : P.underlying t = some (.slice e)) (hi : P.info? e = some i) (hz : i.zero = some z)
    (hsize : i.size = size) (hby : i.bytes = bytes) (hzs : z.cells.size = size) (hsz : 0 < size)
    (v : Value) (n : Nat) (xs : List Value) (hs : a.eval s = v) (hown : w.ownsRow base e size v n xs)
    (A : Option Addr) (m c : Nat) (news : List Value) (hx : a.eval x = .slice A m c) (hr : Seq w size A m news) (h1 : ∀ u ∈ news, u.oneCell' = true)
    (h63 : n + m ≤ maxLen) (hbytes : (n + m) * bytes ≤ 140737488355328) (hbase : base ≤ w.heap.size) (hA : A = none → m = 0 ∧ c = 0)
    (h : ∀ v' w', w'.ownsRow base e size v' (n + m) (xs ++ news) → w.grownBy w' v.ownBlock → (v'.ownBlock = v.ownBlock ∨ v'.ownBlock = some w.heap.size) → K (a.put o.dst v') w') : o.wp P a w K Q := by
  obtain ⟨v', w', hrun, h2, h3, h4⟩ := run_append_seq (P := P) w base t o.type e i z size bytes ht hi hz hsize hby hzs hsz v n xs hown A m c news hr h1 h63 hbytes hbase hA
  unfold Oper.wp execOp
  simp only [ho, resolve, invoke, builtin, Sem.run_bind, Sem.run_pure, Result.andThen_ok, List.map_toArray, List.map_cons, List.map_nil, hs, hx, hrun]
  exact h v' w' h2 h3 h4

theorem wpList_append_seq {ops : Array Oper} {rest : List Oper} {o : Oper} {a : Act} {Q : Exit → Act → World → Prop} (hgd : o.guard = none) (s x : Operand) (t : TypeId)
    (ho : o.op = .call { callee := .builtin .append, args := #[s, x], argTypes := #[t, t] })
    (base : Nat) (e : TypeId) (i : TypeInfo) (z : Value) (size bytes : Nat) (ht : P.underlying t = some (.slice e)) (hi : P.info? e = some i) (hz : i.zero = some z)
    (hsize : i.size = size) (hby : i.bytes = bytes) (hzs : z.cells.size = size) (hsz : 0 < size)
    (v : Value) (n : Nat) (xs : List Value) (hs : a.eval s = v) (hown : w.ownsRow base e size v n xs)
    (A : Option Addr) (m c : Nat) (news : List Value) (hx : a.eval x = .slice A m c) (hr : Seq w size A m news) (h1 : ∀ u ∈ news, u.oneCell' = true)
    (h63 : n + m ≤ maxLen) (hbytes : (n + m) * bytes ≤ 140737488355328) (hbase : base ≤ w.heap.size) (hA : A = none → m = 0 ∧ c = 0)
    (h : ∀ v' w', w'.ownsRow base e size v' (n + m) (xs ++ news) → w.grownBy w' v.ownBlock → (v'.ownBlock = v.ownBlock ∨ v'.ownBlock = some w.heap.size) → wpList P ops Q rest (a.put o.dst v') w') : wpList P ops Q (o :: rest) a w :=
  wpList_plain hgd fun _ hK => wp_append_seq w s x t ho base e i z size bytes ht hi hz hsize hby hzs hsz v n xs hs hown A m c news hx hr h1 h63 hbytes hbase hA fun v' w' h2 h3 h4 => hK _ _ (h v' w' h2 h3 h4)

theorem step_append_seq {ops : Array Oper} {o : Oper} {a : Act} {K : Act → World → Prop} {Q : Exit → Act → World → Prop} {E : Prop} (hgd : o.guard = none) (s x : Operand) (t : TypeId)
    (ho : o.op = .call { callee := .builtin .append, args := #[s, x], argTypes := #[t, t] })
    (base : Nat) (e : TypeId) (i : TypeInfo) (z : Value) (size bytes : Nat) (ht : P.underlying t = some (.slice e)) (hi : P.info? e = some i) (hz : i.zero = some z)
    (hsize : i.size = size) (hby : i.bytes = bytes) (hzs : z.cells.size = size) (hsz : 0 < size)
    (v : Value) (n : Nat) (xs : List Value) (hs : a.eval s = v) (hown : w.ownsRow base e size v n xs)
    (A : Option Addr) (m c : Nat) (news : List Value) (hx : a.eval x = .slice A m c) (hr : Seq w size A m news) (h1 : ∀ u ∈ news, u.oneCell' = true)
    (h63 : n + m ≤ maxLen) (hbytes : (n + m) * bytes ≤ 140737488355328) (hbase : base ≤ w.heap.size) (hA : A = none → m = 0 ∧ c = 0)
    (h : ∀ v' w', w'.ownsRow base e size v' (n + m) (xs ++ news) → w.grownBy w' v.ownBlock → (v'.ownBlock = v.ownBlock ∨ v'.ownBlock = some w.heap.size) → K (a.put o.dst v') w') :
    if Region.wanted o (yielded ops a.tmps) = true then Oper.wp P o a w K Q else E := by
  have hw : Region.wanted o (yielded ops a.tmps) = true := by simp [Region.wanted, hgd]
  rw [if_pos hw]
  exact wp_append_seq w s x t ho base e i z size bytes ht hi hz hsize hby hzs hsz v n xs hs hown A m c news hx hr h1 h63 hbytes hbase hA h
end

end Go.Proofs.YtlcalmdjgllkcaaDoor.Dec

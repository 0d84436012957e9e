/-
  For every list of steps over a set of identifiers the law FnUIDSteps returns true and leaves its argument as it was: the package's set (a map) and the reference's list answer each step alike.
  Conditions: none beyond those of the given row and card (the listed variable is tied to the program's text; the repository beside it is a pruned copy).
-/
import Derived.Test.YtgliaglnblhinaaDoorGot
import Derived.Test.YtgliaglnblhinaaDoorTie
import Derived.Test.YtgliaglnblhinaaDoorCards
import Derived.BigQuiet
import Derived.Deep.QuietTactic
import Derived.Deep.Slices
import Derived.Deep.Fields
import Derived.ChangeSame
import Derived.OpenShut
import Derived.LaidMore
import Derived.Stop.Joined
import Derived.SevenTiedAt
namespace Go.Proofs.YtgliaglnblhinaaDoor
namespace fnUIDSteps
open Go Go.ChangeShapes Go.WideShapes Go.ChangeAt Go.RowKit Go.Maps Go.Deep Sets

theorem flat_at {α : Type} {size : Nat} (encv : α → List Value) (hlen : ∀ x, (encv x).length = size) : ∀ (l : List α) (j : Nat) (u : Value), (l.flatMap encv)[j]? = some u → ∃ i r x, j = i * size + r ∧ r < size ∧ l[i]? = some x ∧ (encv x)[r]? = some u
  | [], j, u, h => by simp at h
  | y :: l, j, u, h => by
    rw [List.flatMap_cons] at h
    by_cases hj : j < size
    · rw [List.getElem?_append_left (by rw [hlen]; exact hj)] at h
      exact ⟨0, j, y, by omega, hj, rfl, h⟩
    · rw [List.getElem?_append_right (by rw [hlen]; omega), hlen] at h
      obtain ⟨i, r, x, e, hr, hx, hu⟩ := flat_at encv hlen l _ u h
      exact ⟨i + 1, r, x, by rw [Nat.succ_mul]; omega, hr, by simpa using hx, hu⟩

/-- An argument that is a slice, whatever its elements: its cells as the cells of a list. -/
theorem open_seq {α : Type} {H : Type} {enc : TypeId × Value → H} {P : Program} {W : World} {t e : TypeId} {size : Nat} (encv : α → List Value) (Q : α → Prop) (ht : P.underlying t = some (.slice e)) (hC : P.cellsOf e = size) (hlen : ∀ x, (encv x).length = size) (hsz : 0 < size)
    (hel : ∀ n cs x, DataW.trod enc P W 0 (fun _ => true) true n e cs = some x → ∃ a, cs = encv a ∧ Q a) {a0 : Option Addr} {len cap : Nat} {d : DataW H} {p : List MemPlace} (h : DataW.Trod enc P W 0 (fun _ => true) true t (.slice a0 len cap) d p) :
    ∃ l : List α, l.length = len ∧ len ≤ cap ∧ cap ≤ maxLen ∧ (a0 = none → len = 0 ∧ cap = 0) ∧ (∀ x ∈ l, Q x) ∧ Seq W size a0 len (l.flatMap encv) := by
  obtain ⟨fuel, hf⟩ := h
  have hf' : DataW.trod enc P W 0 (fun _ => true) true fuel t [.slice a0 len cap] = some (d, p) := hf
  rcases open_slice ht hf' with ⟨hcs, hx⟩ | ⟨a, len', cap', m, n, D, Pl, hcs, _, hl, hm, hmm, _, hi⟩
  · simp at hcs
    obtain ⟨rfl, rfl, rfl⟩ := hcs
    exact ⟨[], rfl, Nat.le_refl _, Nat.zero_le _, fun _ => ⟨rfl, rfl⟩, by simp, Seq.nil _ _ _⟩
  · simp at hcs
    obtain ⟨rfl, rfl, rfl⟩ := hcs
    have hlm : len ≤ m := by rw [hmm]; simpa using hl
    have hx : ∀ i : Fin len, ∃ x : α, Q x ∧ ∀ r, r < size → W.cell? (a.add (i.1 * size + r)) = (encv x)[r]? := by
      intro i
      obtain ⟨cs', hc, hd⟩ := hi i.1 (by omega)
      obtain ⟨x, rfl, hq⟩ := hel _ _ _ hd
      rw [hC] at hc
      obtain ⟨_, _, hat⟩ := World.cells?_some hc
      exact ⟨x, hq, fun r hr => by rw [← Go.Deep.add_add]; exact hat r hr⟩
    have hfl : ((List.ofFn fun i : Fin len => Classical.choose (hx i)).flatMap encv).length = len * size := by
      rw [List.length_flatMap]
      have : (List.map (fun x => (encv x).length) (List.ofFn fun i : Fin len => Classical.choose (hx i))) = List.replicate len size := by
        apply List.ext_getElem
        · simp
        · intro i h1 h2
          simp [hlen]
      rw [this]
      simp
    refine ⟨List.ofFn fun i : Fin len => Classical.choose (hx i), by simp, hl, hm, (fun h => by cases h), ?_, hfl, ?_⟩
    · intro x hmem
      obtain ⟨i, rfl⟩ := List.mem_ofFn.1 hmem
      exact (Classical.choose_spec (hx i)).1
    · by_cases h0 : len = 0
      · exact .inl h0
      · obtain ⟨b, off, spot⟩ := a
        have hspot : spot = none := by
          have h1 := (Classical.choose_spec (hx ⟨0, by omega⟩)).2 0 hsz
          rw [List.getElem?_eq_getElem (by rw [hlen]; exact hsz)] at h1
          simpa [Addr.add] using World.cell?_spot h1
        subst hspot
        refine .inr ⟨b, off, rfl, fun j u hu => ?_⟩
        obtain ⟨i, r, x, rfl, hr, hxi, hu'⟩ := flat_at encv hlen _ j u hu
        have hil : i < len := by have := (List.getElem?_eq_some_iff.1 hxi).1; simpa using this
        have h2 := (Classical.choose_spec (hx ⟨i, hil⟩)).2 r hr
        rw [List.getElem?_eq_getElem (by simpa using hil)] at hxi
        simp at hxi
        rw [addr_add] at h2
        rw [h2, ← hu', ← hxi]

theorem own_len {w : World} {base e size n m c : Nat} {A : Option Addr} {xs : List Value} (h : w.ownsRow base e size (.slice A m c) n xs) : m = n := by
  rcases h.2 with ⟨h0, hn⟩ | ⟨g, cap, cur, hv, _⟩
  · injection h0; omega
  · injection hv
def TruePost (W : World) (e : Ending) (W' : World) : Prop := e = .returned (.bool true) ∧ Since W W'
theorem ints_at {zs : List Int} {k : Nat} {z : Int} (h : zs[k]? = some z) : (ints zs)[k]? = some (.int .i64 z) := by simp [ints, h]

set_option maxHeartbeats 400000 in
theorem eq_any (zs : List Int) (A1 A2 : Option Addr) (c1 c2 : Nat) (W : World) (hn : zs.length ≤ maxLen) (h1 : Seq W 1 A1 zs.length (ints zs)) (h2 : Seq W 1 A2 zs.length (ints zs)) :
    Calls Tryd.prog 8 #[.slice A1 zs.length c1, .slice A2 zs.length c2] W (TruePost W) := by
  unfold maxLen at hn
  generalize hn0 : zs.length = n at *
  have HN := Go.Lib.hid hn0
  clear hn0
  go_enter Tryd.func8, Tryd.ntmps8
  go_wp2
  go_loopw [13] (fun iv wr => ∃ k : Nat, k ≤ n ∧ iv = .int .i64 k ∧ Since W wr) (fun iv _ => n - (intOf iv).toNat)
  case atStart => exact ⟨0, Nat.zero_le _, rfl, Since.refl _⟩
  case round =>
    obtain ⟨k, hk, rfl, hb⟩ := hrel
    by_cases hkn : k < n
    · obtain ⟨b, o, rfl, hcs⟩ := h1.at_ (by omega)
      obtain ⟨b', o', rfl, hcs'⟩ := h2.at_ (by omega)
      obtain ⟨z, hp⟩ : ∃ p, zs[k]? = some p := ⟨_, List.getElem?_eq_getElem (by rw [HN.out]; exact hkn)⟩
      have hc0 : wr.cell? ⟨b, o + k, none⟩ = some (.int .i64 z) := cell_since hb (hcs _ _ (ints_at hp))
      have hc1 : wr.cell? ⟨b', o' + k, none⟩ = some (.int .i64 z) := cell_since hb (hcs' _ _ (ints_at hp))
      have hki : (k : Int) < (n : Int) := by omega
      clear hcs hcs' h1 h2 hp
      go_wp2
      go_quiet (fail)
      go_wp2
      go_roundw
      case rel => exact ⟨k + 1, hkn, by go_num, hb.drewN _⟩
      case measure => simp [intOf]; omega
    · obtain rfl : k = n := by omega
      go_wp2
      exact ⟨rfl, _, by simp [results, Tryd.results8, go_sem], rfl, hb⟩

set_option maxHeartbeats 400000 in
theorem walk (l : List Step) (A : Option Addr) (cap : Nat) (W : World) (hn : l.length ≤ maxLen) (hwide : ∀ x ∈ l, Wide x.2) (hseq : Seq W 3 A l.length (stepCells l)) :
    Calls Tryd.prog 3 #[.slice A l.length cap] W (TruePost W) := by
  go_enter Tryd.func3, Tryd.ntmps3
  go_wp2_with fail
  refine (fits12 l A cap W hn hseq).mono ?_
  rintro e w1 ⟨r, rfl, hs1⟩
  cases r
  · go_wp2
    exact ⟨rfl, _, by simp [results, Tryd.results3, go_sem], rfl, hs1⟩
  · go_wp2_with fail
    refine (few l A cap w1 hn (hseq.since hs1)).mono ?_
    rintro e w2 ⟨r, rfl, hr, hs2⟩
    have hs2' := hs1.trans hs2
    cases r
    · go_wp2
      exact ⟨rfl, _, by simp [results, Tryd.results3, go_sem], rfl, hs2'⟩
    · have hle := hr rfl
      clear hr
      go_wp2_with fail
      refine (got_steps l A cap w2 hle hwide (hseq.since hs2')).mono ?_
      rintro e w3 ⟨A1, n1, c1, rfl, hown1, hs3⟩
      have hs3' := hs2'.trans hs3
      go_wp2_with fail
      refine (ref_steps l A cap w3 hle (hseq.since hs3')).mono ?_
      rintro e w4 ⟨A2, n2, c2, rfl, hown2, hs4⟩
      have hs4' := hs3'.trans hs4
      have e1 : n1 = (outs [] l).length := own_len hown1
      have e2 : n2 = (outs [] l).length := own_len hown2
      subst e1
      subst e2
      have q1 := Seq.of_own (own_since hown1 hs4)
      have q2 := Seq.of_own hown2
      have hol : (outs [] l).length ≤ maxLen := by rw [outs_length]; exact hn
      clear hown1 hown2 hs4 hs3 hs2 hseq
      go_wp2_with fail
      refine (eq_any (outs [] l) A1 A2 c1 c2 w4 hol q1 q2).mono ?_
      rintro e w5 ⟨rfl, hs5⟩
      go_wp2
      exact ⟨rfl, _, by simp [results, Tryd.results3, go_sem], rfl, hs4'.trans hs5⟩

section
variable {H : Type} {enc : TypeId × Value → H} {W : World}
theorem open_step {n : Nat} {cs : List Value} {x : DataW H × List MemPlace} (h : DataW.trod enc Tryd.prog W 0 (fun _ => true) true n 42 cs = some x) : ∃ a : Step, cs = [.int .i64 a.1, .string a.2.1, .string a.2.2] ∧ Wide a.2 := by
  obtain ⟨ys, n1, _, _, hl, hl1, hf⟩ := DataW.trod_struct Tryd.underlying42 h
  have c42 : Tryd.prog.cellsOf 42 = 3 := by kernel_rfl
  have c40 : Tryd.prog.cellsOf 40 = 2 := by kernel_rfl
  have c3 : Tryd.prog.cellsOf 3 = 1 := by kernel_rfl
  have c9 : Tryd.prog.cellsOf 9 = 1 := by kernel_rfl
  rw [c42] at hl
  obtain ⟨v0, v1, v2, rfl⟩ : ∃ v0 v1 v2, cs = [v0, v1, v2] := by
    match cs, hl with
    | [a, b, c], _ => exact ⟨a, b, c, rfl⟩
  have f0 : DataW.trod enc Tryd.prog W 0 (fun _ => true) true n1 3 [v0] = ys[0]? := by have h9 : DataW.trod enc Tryd.prog W 0 (fun _ => true) true n1 3 (([v0, v1, v2].drop 0).take (Tryd.prog.cellsOf 3)) = ys[0]? := hf 0 _ rfl; rw [c3] at h9; exact h9
  have f1 : DataW.trod enc Tryd.prog W 0 (fun _ => true) true n1 40 [v1, v2] = ys[1]? := by have h9 : DataW.trod enc Tryd.prog W 0 (fun _ => true) true n1 40 (([v0, v1, v2].drop 1).take (Tryd.prog.cellsOf 40)) = ys[1]? := hf 1 _ rfl; rw [c40] at h9; exact h9
  have hys0 : ∃ y, ys[0]? = some y := ⟨_, List.getElem?_eq_getElem (by rw [hl1]; decide)⟩
  have hys1 : ∃ y, ys[1]? = some y := ⟨_, List.getElem?_eq_getElem (by rw [hl1]; decide)⟩
  obtain ⟨y0, hy0⟩ := hys0
  obtain ⟨y1, hy1⟩ := hys1
  rw [hy0] at f0
  rw [hy1] at f1
  obtain ⟨z, e0, _, _⟩ := DataW.trod_int Tryd.underlying3 f0
  obtain ⟨zs, n2, _, _, _, hl2, hg⟩ := DataW.trod_struct Tryd.underlying40 f1
  have g0 : DataW.trod enc Tryd.prog W 0 (fun _ => true) true n2 9 [v1] = zs[0]? := by have h9 : DataW.trod enc Tryd.prog W 0 (fun _ => true) true n2 9 (([v1, v2].drop 0).take (Tryd.prog.cellsOf 9)) = zs[0]? := hg 0 _ rfl; rw [c9] at h9; exact h9
  have g1 : DataW.trod enc Tryd.prog W 0 (fun _ => true) true n2 9 [v2] = zs[1]? := by have h9 : DataW.trod enc Tryd.prog W 0 (fun _ => true) true n2 9 (([v1, v2].drop 1).take (Tryd.prog.cellsOf 9)) = zs[1]? := hg 1 _ rfl; rw [c9] at h9; exact h9
  have hz0 : ∃ y, zs[0]? = some y := ⟨_, List.getElem?_eq_getElem (by rw [hl2]; decide)⟩
  have hz1 : ∃ y, zs[1]? = some y := ⟨_, List.getElem?_eq_getElem (by rw [hl2]; decide)⟩
  obtain ⟨u0, hu0⟩ := hz0
  obtain ⟨u1, hu1⟩ := hz1
  rw [hu0] at g0
  rw [hu1] at g1
  obtain ⟨s1, e1, _, w1⟩ := DataW.trod_string Tryd.underlying9 g0
  obtain ⟨s2, e2, _, w2⟩ := DataW.trod_string Tryd.underlying9 g1
  simp at e0 e1 e2
  subst e0 e1 e2
  exact ⟨(z, s1, s2), rfl, w1, w2⟩
end

theorem own : ownKnob Tryd.prog.godebug = none := by kernel_rfl
theorem laidOut : laidOutB Tryd.prog = true := by kernel_rfl

theorem door_met (os : Os) (args : Array Value) : laidMetH Tryd.prog Rows.fnUIDStepsRow.laid ((World.doorLaid Tryd.prog 400 os).forCall (fun _ _ => 0) ⟨#[], args, []⟩).memory :=
  laidMetH_of_parts3 (fuel := 8) (laidMet_of_run' 8 (by kernel_rfl) (by kernel_rfl)) (by kernel_rfl) (by kernel_rfl)

set_option maxRecDepth 100000 in
theorem lifted (os : Os) (started : os.Started) (H : Type) (enc : TypeId × Value → H) :
    ReturnsInHanded {} Tryd.checked os 3 .any (fun w args => (Rows.fnUIDStepsSpec.pre enc Tryd.prog Tryd.f3 [] false w args ∧ laidMetH Tryd.prog Rows.fnUIDStepsRow.laid w) ∧ sizedMet enc Tryd.prog Tryd.f3 (OpenSpec.ofChange Rows.fnUIDStepsSpec) false w args)
      (Rows.fnUIDStepsSpec.post enc Tryd.prog Tryd.f3 false true false false) := by
  refine returnsInHanded_of_change_and (C := Tryd.checked) (X := fun w _ => laidMetH Tryd.prog Rows.fnUIDStepsRow.laid w) (fun _ _ _ hh h => h.of_heap hh) own started (by kernel_rfl) Tryd.func3
    (ChangeSpec.witness_shaped (enc := enc) (C := Tryd.checked) (os := os) (X := fun w _ => laidMetH Tryd.prog Rows.fnUIDStepsRow.laid w) false (World.doorLaid Tryd.prog 400 os) #[.slice none 0 0] 8 rfl (World.shaped_of_RefB (by kernel_rfl) (by kernel_rfl)) (by kernel_rfl) (by kernel_rfl) (by kernel_rfl) (door_met os _)) ?_
  intro W base args ds gs before hval0 hW _ _ hL hsized
  have hval : ∀ (j : Nat) t v, Tryd.f3.params[j]? = some t → args[j]? = some v → Value.okWide Tryd.prog W .any base t v := hval0
  have hW' := hW
  obtain ⟨p, q, hA0, hV, rfl, hfz, hnd⟩ := hW
  have hA : DataW.TrodAll enc Tryd.prog W 0 (fun _ => true) true Tryd.f3.params.toList args.toList ds p := hA0
  rw [Tryd.params3] at hA hval
  obtain ⟨v0, vs0, d0, ds0, p0, q0, hargs, rfl, rfl, h0, r0⟩ := trodAll_cons hA
  obtain ⟨rfl, rfl, rfl⟩ := trodAll_nil r0
  obtain rfl : args = #[v0] := by cases args; simp_all
  obtain ⟨rfl, rfl⟩ := trodVars_none hV
  obtain ⟨A, len, cap, rfl⟩ := okWide_slice Tryd.underlying22 (hval 0 22 v0 rfl rfl)
  obtain ⟨l, rfl, g0, gc, _, g2, g3⟩ := open_seq (size := 3) (fun a : Step => [.int .i64 a.1, .string a.2.1, .string a.2.2]) (fun a => Wide a.2) Tryd.underlying22 (by kernel_rfl) (fun _ => rfl) (by decide) (fun n cs x h => open_step h) h0
  have g1 : l.length ≤ maxLen := Nat.le_trans g0 gc
  have k0 := h0
  have lt0 : ∀ x ∈ p0, x.block < W.heap.size := by obtain ⟨m, hm⟩ := k0; exact DataW.trod_lt m _ _ _ hm
  clear hA0 hval0
  try simp only [List.append_nil] at hW'
  refine (walk l A cap W g1 g2 g3).mono fun e W' ⟨he, bel⟩ => ?_
  subst he
  exact ⟨_, rfl, _, _, _, [], _, [], hW', trodAll_mk1 (shut_bool Tryd.underlying4 _), (trodAll_cons_mk (Below.trod laidOut (by kernel_rfl) (of_decide_eq_true (by kernel_rfl)) k0 bel lt0) trodAll_mk0), rfl, bel.frame _, fun h => by cases h⟩

theorem over : Rows.fnUIDStepsRow.holds Tryd.pinned (OpenSpec.ofChange Rows.fnUIDStepsSpec) :=
  OpenClaim.holds_of_wide 3 Tryd.f3 rfl rfl rfl rfl rfl rfl rfl ⟨rfl, rfl, rfl, rfl, rfl⟩ rfl rfl rfl rfl rfl (by kernel_rfl) Tryd.func3 (by kernel_rfl)
    (of_decide_eq_true (by kernel_rfl)) (by unfold Func.isWrapper; first | (rw [if_pos (by decide +kernel)]; kernel_rfl) | (rw [if_neg (by decide +kernel)]; exact ⟨rfl, rfl⟩))
    (fun os started H enc _ => lifted os started H enc)

theorem proved : Rows.FnUIDStepsCardSaid :=
  Claim7.holds_tied_plain_at .later [] [.data] true (true, "b7b2e4baf9ca9fd1499d162b2fa37a622377aa7f4a44ec6353ce35d9e50c0b66") false
    over (fun _ h => by cases h) (by kernel_rfl) (fun _ h => by cases h) fnUIDSteps_row_tie rfl ⟨rfl, rfl⟩ (by kernel_rfl) rfl
    (fun f fn hf hfn => by
      obtain rfl : f = 3 := Option.some.inj ((show Tryd.prog.funcNamed "pub-claviger/laws.FnUIDSteps" = some 3 by kernel_rfl).symm.trans hf) |>.symm
      obtain rfl : fn = Tryd.f3 := (Option.some.inj (Tryd.func3.symm.trans hfn)).symm
      exact ⟨by kernel_rfl, fun j t ht => by
        rw [Tryd.params3] at ht
        have hm : t ∈ [22] := by simpa using Array.mem_of_getElem? ht
        have hall : ([22].all fun u => !Tryd.prog.wantsStandIn u) = true := by kernel_rfl
        exact (show Tryd.prog.wantsStandIn t = false by simpa using List.all_eq_true.1 hall t hm)⟩)
    (by kernel_rfl)
#print axioms proved

end fnUIDSteps
end Go.Proofs.YtgliaglnblhinaaDoor

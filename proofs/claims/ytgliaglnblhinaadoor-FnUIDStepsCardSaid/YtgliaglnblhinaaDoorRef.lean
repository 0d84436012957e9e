/-
  The reference's steps over a set of identifiers, walked.
  Conditions: sizes.
-/
import Derived.Test.YtgliaglnblhinaaDoorHold
namespace Go.Proofs.YtgliaglnblhinaaDoor.Sets
open Go Go.ChangeShapes Go.WideShapes Go.ChangeAt Go.RowKit

theorem info3 : (Tryd.prog.info? 3).map (fun i => (i.zero, i.size, i.bytes)) = some (some (.int .i64 0), 1, 8) := by kernel_rfl
theorem gr_since {w w' : World} (h : Since w w') : w.grownBy w' none := ⟨h.os, h.tape, h.output, h.size, fun i hi _ => h.block i hi⟩
theorem own_since {w w' : World} {base e size n : Nat} {v : Value} {xs : List Value} (h : w.ownsRow base e size v n xs) (k : Since w w') : w'.ownsRow base e size v n xs := by
  refine h.kept (gr_since k) ?_
  cases v.ownBlock
  · exact .inl rfl
  · exact .inr (by simp)
theorem own_mono {w : World} {base base' e size n : Nat} {v : Value} {xs : List Value} (h : w.ownsRow base e size v n xs) (hb : base' ≤ base) : w.ownsRow base' e size v n xs := by
  refine ⟨h.1, ?_⟩
  rcases h.2 with h | ⟨g, cap, cur, a, b, c⟩
  · exact .inl h
  · exact .inr ⟨g, cap, cur, a, Nat.le_trans hb b, c⟩
theorem own_apart {w : World} {base base' e e' size size' n n' : Nat} {v v' : Value} {xs xs' : List Value} (h : w.ownsRow base e size v n xs) (h' : w.ownsRow base' e' size' v' n' xs') (hne : e ≠ e') : v.ownBlock = none ∨ v.ownBlock ≠ v'.ownBlock := by
  rcases h.2 with ⟨rfl, _⟩ | ⟨g, cap, cur, rfl, _, hg, _⟩
  · exact .inl rfl
  · rcases h'.2 with ⟨rfl, _⟩ | ⟨g', cap', cur', rfl, _, hg', _⟩
    · exact .inr (by simp [Value.ownBlock])
    · refine .inr fun e2 => ?_
      simp only [Value.ownBlock, Option.some.injEq] at e2
      subst e2
      rw [hg] at hg'
      injection hg' with e3
      injection e3 with _ e4
      exact hne e4

def ints (zs : List Int) : List Value := zs.map fun z => .int .i64 z
theorem ints_snoc (zs : List Int) (z : Int) : ints (zs ++ [z]) = ints zs ++ [.int .i64 z] := by simp [ints]

open Classical in
noncomputable def stepSet (us : List Uid) (x : Step) : List Uid :=
  if x.1 = 0 then (if x.2 ∈ us then us else us ++ [x.2]) else if x.1 = 1 then less us x.2 else us
open Classical in
noncomputable def stepOut (us : List Uid) (x : Step) : Int :=
  if x.1 = 0 then (if x.2 ∈ us then 0 else 1) else if x.1 = 1 then (if x.2 ∈ us then 1 else 0) else if x.1 = 2 then (if x.2 ∈ us then 1 else 0) else if x.1 = 3 then us.length else 0
noncomputable def sets (us : List Uid) (l : List Step) : List Uid := l.foldl stepSet us
noncomputable def outs (us : List Uid) : List Step → List Int
  | [] => []
  | x :: l => stepOut us x :: outs (stepSet us x) l
theorem sets_snoc (us : List Uid) (l : List Step) (x : Step) : sets us (l ++ [x]) = stepSet (sets us l) x := by simp [sets]
theorem outs_snoc (us : List Uid) (l : List Step) (x : Step) : outs us (l ++ [x]) = outs us l ++ [stepOut (sets us l) x] := by
  induction l generalizing us with
  | nil => rfl
  | cons y l ih => simp [outs, ih, sets]
theorem outs_length (us : List Uid) (l : List Step) : (outs us l).length = l.length := by
  induction l generalizing us with
  | nil => rfl
  | cons y l ih => simp [outs, ih]
theorem stepSet_len (us : List Uid) (x : Step) : (stepSet us x).length ≤ us.length + 1 := by
  unfold stepSet
  split
  · split <;> simp
  · split
    · exact Nat.le_trans (less_len _ _) (Nat.le_succ _)
    · exact Nat.le_succ _
theorem sets_len (us : List Uid) (l : List Step) : (sets us l).length ≤ us.length + l.length := by
  induction l generalizing us with
  | nil => simp [sets]
  | cons y l ih =>
    have h1 := ih (stepSet us y)
    have h2 := stepSet_len us y
    have h3 : sets us (y :: l) = sets (stepSet us y) l := rfl
    rw [h3]
    simp only [List.length_cons]
    omega
theorem take_snoc {l : List Step} {k : Nat} {x : Step} (h : l[k]? = some x) : l.take (k + 1) = l.take k ++ [x] := by rw [List.take_add_one, h]; rfl

def RowPost (zs : List Int) (W : World) (e : Ending) (W' : World) : Prop :=
  ∃ A n c, e = .returned (.slice A n c) ∧ W'.ownsRow W.heap.size 3 1 (.slice A n c) zs.length (ints zs) ∧ Since W W'

def SRel (l : List Step) (n : Nat) (W : World) (sv ov iv : Value) (wr : World) : Prop :=
  ∃ k : Nat, k ≤ n ∧ iv = .int .i64 k ∧ wr.ownsRow W.heap.size 40 2 sv (sets [] (l.take k)).length (uidCells (sets [] (l.take k))) ∧ wr.ownsRow W.heap.size 3 1 ov k (ints (outs [] (l.take k))) ∧ Since W wr

/-- One round, told on the lists. -/
theorem srel_next {l : List Step} {n k : Nat} {W wr : World} {sv ov : Value} {x : Step} (hkn : k < n) (hp : l[k]? = some x) {us : List Uid} {z : Int} (hus : us = stepSet (sets [] (l.take k)) x) (hz : z = stepOut (sets [] (l.take k)) x)
    (h1 : wr.ownsRow W.heap.size 40 2 sv us.length (uidCells us)) (h2 : wr.ownsRow W.heap.size 3 1 ov (k + 1) (ints (outs [] (l.take k)) ++ [.int .i64 z])) (h3 : Since W wr) : SRel l n W sv ov (.int .i64 ((k : Int) + 1)) wr := by
  refine ⟨k + 1, hkn, by go_num, ?_, ?_, h3⟩
  · rw [take_snoc hp, sets_snoc, ← hus]; exact h1
  · rw [take_snoc hp, outs_snoc, ints_snoc, ← hz]; exact h2

set_option maxHeartbeats 2000000 in
theorem ref_steps (l : List Step) (A : Option Addr) (cap : Nat) (W : World) (hn : l.length ≤ 200) (hseq : Seq W 3 A l.length (stepCells l)) :
    Calls Tryd.prog 10 #[.slice A l.length cap] W (RowPost (outs [] l) W) := by
  obtain ⟨i0, hi, hz0, hz1, hz2⟩ := info_parts info40
  obtain ⟨j0, hj, hy0, hy1, hy2⟩ := info_parts info3
  generalize hn0 : l.length = n at *
  have HN := Go.Lib.hid hn0
  clear hn0
  go_enter Tryd.func10, Tryd.ntmps10
  go_wp2
  go_loopw [3, 4, 11] (fun sv ov iv wr => SRel l n W sv ov iv wr) (fun _ _ iv _ => n - (intOf iv).toNat)
  case atStart => exact ⟨0, Nat.zero_le _, rfl, World.ownsRow_nil _ _ _ _, World.ownsRow_nil _ _ _ _, Since.refl _⟩
  case round =>
    obtain ⟨k, hk, rfl, hset, hout, hb⟩ := hrel
    have hsl : (sets [] (l.take k)).length ≤ k := Nat.le_trans (sets_len _ _) (by rw [List.length_take]; simp; omega)
    obtain ⟨A1, c1, rfl, hnil1⟩ := own_slice hset
    by_cases hkn : k < n
    · obtain ⟨b, o, rfl, hcs⟩ := hseq.at_ (by omega)
      obtain ⟨⟨z, p1, p2⟩, hp⟩ : ∃ p, l[k]? = some p := ⟨_, List.getElem?_eq_getElem (by rw [HN.out]; exact hkn)⟩
      obtain ⟨q0, q1, q2⟩ := stepCells_at hp
      have hc0 : wr.cell? ⟨b, o + k * 3, none⟩ = some (.int .i64 z) := cell_since hb (by have := hcs _ _ q0; rwa [Nat.mul_comm] at this)
      have hc1 : wr.cell? ⟨b, o + k * 3 + 1, none⟩ = some (.string p1) := cell_since hb (by have := hcs _ _ q1; rwa [Nat.mul_comm, ← Nat.add_assoc] at this)
      have hc2 : wr.cell? ⟨b, o + k * 3 + 2, none⟩ = some (.string p2) := cell_since hb (by have := hcs _ _ q2; rwa [Nat.mul_comm, ← Nat.add_assoc] at this)
      have hb' := hb.alloc (.cells #[.int .i64 z, .string p1, .string p2] 42)
      have hset' := hset.alloc (.cells #[.int .i64 z, .string p1, .string p2] 42)
      have hout' := hout.alloc (.cells #[.int .i64 z, .string p1, .string p2] 42)
      generalize hus : sets [] (l.take k) = us at *
      have HC := Go.Lib.hid (fun w h => has_any us (p1, p2) A1 c1 w (by unfold maxLen; omega) h)
      have HL := Go.Lib.hid (fun w h => less_any us (p1, p2) A1 c1 w (by omega) h)
      have HUS := Go.Lib.hid hus
      have HP := Go.Lib.hid hp
      have HNIL := Go.Lib.hid hnil1
      clear hcs q0 q1 q2 hseq hset hout hb hus hp hnil1
      have HSET := Go.Lib.hid hset'
      have HOUT := Go.Lib.hid hout'
      have HB := Go.Lib.hid hb'
      have hsq := Seq.of_own hset'
      clear hset' hout' hb'
      go_wp2_with fail
      refine (HC.out _ hsq).mono ?_
      rintro e w2 ⟨r, rfl, hr, hs2⟩
      have hset2 := own_since HSET.out hs2
      have hout2 := own_since HOUT.out hs2
      have hb2 := HB.out.trans hs2
      have hsq2 := Seq.of_own hset2
      have hx0 : w2.cell? ⟨wr.heap.size, 0, none⟩ = some (.int .i64 z) := cell_since hs2 (by rw [World.cell?_alloc_at _ _ _ _ rfl]; rfl)
      have hx1 : w2.cell? ⟨wr.heap.size, 1, none⟩ = some (.string p1) := cell_since hs2 (by rw [World.cell?_alloc_at _ _ _ _ rfl]; rfl)
      have hx2 : w2.cell? ⟨wr.heap.size, 2, none⟩ = some (.string p2) := cell_since hs2 (by rw [World.cell?_alloc_at _ _ _ _ rfl]; rfl)
      have hsz2 := hb2.size
      have HR := Go.Lib.hid hr
      have HS2 := Go.Lib.hid hset2
      have HO2 := Go.Lib.hid hout2
      have HB2 := Go.Lib.hid hb2
      have HQ2 := Go.Lib.hid hsq2
      clear hr hs2 hsq HSET HOUT HB HC hset2 hout2 hb2 hsq2 hc0 hc1 hc2
      by_cases z0 : z = 0
      · subst z0
        cases r
        · have hm : (p1, p2) ∉ us := fun h => Bool.false_ne_true (HR.out.2 h)
          go_wp2_with (first | (at_builtin; refine wpList_append_seq _ rfl (.tmp 25) (.tmp 28) 55 rfl W.heap.size 40 i0 (.agg #[.string ⟨#[]⟩, .string ⟨#[]⟩]) 2 32 Tryd.underlying55 hi hz0 hz1 hz2 rfl (by decide) _ _ _ rfl (HS2.out.alloc _) (some ⟨w2.heap.size, 0, none⟩) 1 1 [.string p1, .string p2] rfl (by simpa using lit_seq w2 #[.string p1, .string p2] 40 (n := 1) (size := 2) rfl) (by simp [Value.oneCell']) (by unfold maxLen; omega) (by omega) (by simp; omega) (by simp) ?_; intro v4 w4 hown4 hgr4 hbl4; have hout4 := (HO2.out.alloc (.cells #[.string p1, .string p2] 40)).kept hgr4 (own_apart (HO2.out.alloc (.cells #[.string p1, .string p2] 40)) (HS2.out.alloc (.cells #[.string p1, .string p2] 40)) (by decide)); have hb4 := (HB2.out.alloc (.cells #[.string p1, .string p2] 40)).grown hgr4 (fun j hj => by have := (HS2.out.lt j hj).1; simpa using this); have hsz4 := hb4.size) | (at_builtin; go_must (refine wpList_append_seq _ rfl (.tmp 44) (.tmp 46) 25 rfl W.heap.size 3 j0 (.int .i64 0) 1 8 Tryd.underlying25 hj hy0 hy1 hy2 rfl (by decide) _ _ _ rfl (hout4.alloc _) (some ⟨w4.heap.size, 0, none⟩) 1 1 [.int .i64 1] rfl (by simpa using lit_seq w4 #[.int .i64 1] 3 (n := 1) (size := 1) rfl) (by simp [Value.oneCell']) (by unfold maxLen; omega) (by omega) (by simp; omega) (by simp) ?_); intro v3 w3 hown3 hgr3 hbl3) | go_in)
          have hus4 : w4.ownsRow W.heap.size 40 2 v4 (us ++ [(p1, p2)]).length (uidCells (us ++ [(p1, p2)])) := by rw [uidCells_append, List.length_append]; exact hown4
          have hrel : SRel l n W _ v3 (.int .i64 ((k : Int) + 1)) w3 := srel_next hkn HP.out (by rw [HUS.out]; simp [stepSet, hm]) (by rw [HUS.out]; simp [stepOut, hm]) ((hus4.alloc _).kept hgr3 (own_apart (hus4.alloc (.cells #[.int .i64 1] 3)) (hout4.alloc (.cells #[.int .i64 1] 3)) (by decide))) hown3 ((hb4.alloc _).grown hgr3 (fun j hj => by have := (hout4.lt j hj).1; simpa using this))
          have HREL := Go.Lib.hid hrel
          clear hrel hown3 hgr3 hbl3 hown4 hgr4 hbl4 hout4 hb4 hus4
          go_roundw
          case rel => exact HREL.out
          case measure => simp [intOf]; omega
        · have hm : (p1, p2) ∈ us := HR.out.1 rfl
          go_wp2_with (first | (at_builtin; go_must (refine wpList_append_seq _ rfl (.tmp 44) (.tmp 46) 25 rfl W.heap.size 3 j0 (.int .i64 0) 1 8 Tryd.underlying25 hj hy0 hy1 hy2 rfl (by decide) _ _ _ rfl (HO2.out.alloc _) (some ⟨w2.heap.size, 0, none⟩) 1 1 [.int .i64 0] rfl (by simpa using lit_seq w2 #[.int .i64 0] 3 (n := 1) (size := 1) rfl) (by simp [Value.oneCell']) (by unfold maxLen; omega) (by omega) (by simp; omega) (by simp) ?_); intro v3 w3 hown3 hgr3 hbl3) | go_in)
          have hrel : SRel l n W _ v3 (.int .i64 ((k : Int) + 1)) w3 := srel_next hkn HP.out (by rw [HUS.out]; simp [stepSet, hm]) (by rw [HUS.out]; simp [stepOut, hm]) (((HS2.out).alloc _).kept hgr3 (own_apart ((HS2.out).alloc (.cells #[.int .i64 0] 3)) ((HO2.out).alloc (.cells #[.int .i64 0] 3)) (by decide))) hown3 ((HB2.out.alloc _).grown hgr3 (fun j hj => by have := (HO2.out.lt j hj).1; simpa using this))
          have HREL := Go.Lib.hid hrel
          clear hrel hown3 hgr3 hbl3
          go_roundw
          case rel => exact HREL.out
          case measure => simp [intOf]; omega
      · by_cases z1 : z = 1
        · subst z1
          cases r
          · have hm : (p1, p2) ∉ us := fun h => Bool.false_ne_true (HR.out.2 h)
            go_wp2_with (first | (at_builtin; go_must (refine wpList_append_seq _ rfl (.tmp 44) (.tmp 46) 25 rfl W.heap.size 3 j0 (.int .i64 0) 1 8 Tryd.underlying25 hj hy0 hy1 hy2 rfl (by decide) _ _ _ rfl (HO2.out.alloc _) (some ⟨w2.heap.size, 0, none⟩) 1 1 [.int .i64 0] rfl (by simpa using lit_seq w2 #[.int .i64 0] 3 (n := 1) (size := 1) rfl) (by simp [Value.oneCell']) (by unfold maxLen; omega) (by omega) (by simp; omega) (by simp) ?_); intro v3 w3 hown3 hgr3 hbl3) | go_in)
            have hrel : SRel l n W _ v3 (.int .i64 ((k : Int) + 1)) w3 := srel_next hkn HP.out (by rw [HUS.out]; simp [stepSet, hm, less_none hm]) (by rw [HUS.out]; simp [stepOut, hm, less_none hm]) (((HS2.out).alloc _).kept hgr3 (own_apart ((HS2.out).alloc (.cells #[.int .i64 0] 3)) ((HO2.out).alloc (.cells #[.int .i64 0] 3)) (by decide))) hown3 ((HB2.out.alloc _).grown hgr3 (fun j hj => by have := (HO2.out.lt j hj).1; simpa using this))
            have HREL := Go.Lib.hid hrel
            clear hrel hown3 hgr3 hbl3
            go_roundw
            case rel => exact HREL.out
            case measure => simp [intOf]; omega
          · have hm : (p1, p2) ∈ us := HR.out.1 rfl
            go_wp2_with fail
            refine (HL.out _ HQ2.out).mono ?_
            rintro e w4 ⟨A4, n4, c4, rfl, hown4, hs4⟩
            have hown4' := own_mono hown4 HB2.out.size
            have hout4 := own_since HO2.out hs4
            have hb4 := HB2.out.trans hs4
            have hsz4 := hb4.size
            go_wp2_with (first | (at_builtin; go_must (refine wpList_append_seq _ rfl (.tmp 44) (.tmp 46) 25 rfl W.heap.size 3 j0 (.int .i64 0) 1 8 Tryd.underlying25 hj hy0 hy1 hy2 rfl (by decide) _ _ _ rfl (hout4.alloc _) (some ⟨w4.heap.size, 0, none⟩) 1 1 [.int .i64 1] rfl (by simpa using lit_seq w4 #[.int .i64 1] 3 (n := 1) (size := 1) rfl) (by simp [Value.oneCell']) (by unfold maxLen; omega) (by omega) (by simp; omega) (by simp) ?_); intro v3 w3 hown3 hgr3 hbl3) | go_in)
            have hrel : SRel l n W _ v3 (.int .i64 ((k : Int) + 1)) w3 := srel_next hkn HP.out (by rw [HUS.out]; simp [stepSet, hm]) (by rw [HUS.out]; simp [stepOut, hm]) ((hown4'.alloc _).kept hgr3 (own_apart (hown4'.alloc (.cells #[.int .i64 1] 3)) (hout4.alloc (.cells #[.int .i64 1] 3)) (by decide))) hown3 ((hb4.alloc _).grown hgr3 (fun j hj => by have := (hout4.lt j hj).1; simpa using this))
            have HREL := Go.Lib.hid hrel
            clear hrel hown3 hgr3 hbl3 hown4 hown4' hout4 hb4
            go_roundw
            case rel => exact HREL.out
            case measure => simp [intOf]; omega
        · by_cases z2 : z = 2
          · subst z2
            cases r
            · have hm : (p1, p2) ∉ us := fun h => Bool.false_ne_true (HR.out.2 h)
              go_wp2_with (first | (at_builtin; go_must (refine wpList_append_seq _ rfl (.tmp 44) (.tmp 46) 25 rfl W.heap.size 3 j0 (.int .i64 0) 1 8 Tryd.underlying25 hj hy0 hy1 hy2 rfl (by decide) _ _ _ rfl (HO2.out.alloc _) (some ⟨w2.heap.size, 0, none⟩) 1 1 [.int .i64 0] rfl (by simpa using lit_seq w2 #[.int .i64 0] 3 (n := 1) (size := 1) rfl) (by simp [Value.oneCell']) (by unfold maxLen; omega) (by omega) (by simp; omega) (by simp) ?_); intro v3 w3 hown3 hgr3 hbl3) | go_in)
              have hrel : SRel l n W _ v3 (.int .i64 ((k : Int) + 1)) w3 := srel_next hkn HP.out (by rw [HUS.out]; simp [stepSet, hm]) (by rw [HUS.out]; simp [stepOut, hm]) (((HS2.out).alloc _).kept hgr3 (own_apart ((HS2.out).alloc (.cells #[.int .i64 0] 3)) ((HO2.out).alloc (.cells #[.int .i64 0] 3)) (by decide))) hown3 ((HB2.out.alloc _).grown hgr3 (fun j hj => by have := (HO2.out.lt j hj).1; simpa using this))
              have HREL := Go.Lib.hid hrel
              clear hrel hown3 hgr3 hbl3
              go_roundw
              case rel => exact HREL.out
              case measure => simp [intOf]; omega
            · have hm : (p1, p2) ∈ us := HR.out.1 rfl
              go_wp2_with (first | (at_builtin; go_must (refine wpList_append_seq _ rfl (.tmp 44) (.tmp 46) 25 rfl W.heap.size 3 j0 (.int .i64 0) 1 8 Tryd.underlying25 hj hy0 hy1 hy2 rfl (by decide) _ _ _ rfl (HO2.out.alloc _) (some ⟨w2.heap.size, 0, none⟩) 1 1 [.int .i64 1] rfl (by simpa using lit_seq w2 #[.int .i64 1] 3 (n := 1) (size := 1) rfl) (by simp [Value.oneCell']) (by unfold maxLen; omega) (by omega) (by simp; omega) (by simp) ?_); intro v3 w3 hown3 hgr3 hbl3) | go_in)
              have hrel : SRel l n W _ v3 (.int .i64 ((k : Int) + 1)) w3 := srel_next hkn HP.out (by rw [HUS.out]; simp [stepSet, hm]) (by rw [HUS.out]; simp [stepOut, hm]) (((HS2.out).alloc _).kept hgr3 (own_apart ((HS2.out).alloc (.cells #[.int .i64 1] 3)) ((HO2.out).alloc (.cells #[.int .i64 1] 3)) (by decide))) hown3 ((HB2.out.alloc _).grown hgr3 (fun j hj => by have := (HO2.out.lt j hj).1; simpa using this))
              have HREL := Go.Lib.hid hrel
              clear hrel hown3 hgr3 hbl3
              go_roundw
              case rel => exact HREL.out
              case measure => simp [intOf]; omega
          · by_cases z3 : z = 3
            · subst z3
              go_wp2_with (first | (at_builtin; go_must (refine wpList_append_seq _ rfl (.tmp 44) (.tmp 46) 25 rfl W.heap.size 3 j0 (.int .i64 0) 1 8 Tryd.underlying25 hj hy0 hy1 hy2 rfl (by decide) _ _ _ rfl (HO2.out.alloc _) (some ⟨w2.heap.size, 0, none⟩) 1 1 [.int .i64 (us.length : Int)] rfl (by simpa using lit_seq w2 #[.int .i64 (us.length : Int)] 3 (n := 1) (size := 1) rfl) (by simp [Value.oneCell']) (by unfold maxLen; omega) (by omega) (by simp; omega) (by simp) ?_); intro v3 w3 hown3 hgr3 hbl3) | go_in)
              have hrel : SRel l n W _ v3 (.int .i64 ((k : Int) + 1)) w3 := srel_next hkn HP.out (by rw [HUS.out]; simp [stepSet]) (by rw [HUS.out]; simp [stepOut]) (((HS2.out).alloc _).kept hgr3 (own_apart ((HS2.out).alloc (.cells #[.int .i64 (us.length : Int)] 3)) ((HO2.out).alloc (.cells #[.int .i64 (us.length : Int)] 3)) (by decide))) hown3 ((HB2.out.alloc _).grown hgr3 (fun j hj => by have := (HO2.out.lt j hj).1; simpa using this))
              have HREL := Go.Lib.hid hrel
              clear hrel hown3 hgr3 hbl3
              go_roundw
              case rel => exact HREL.out
              case measure => simp [intOf]; omega
            · skip
              go_wp2_with (first | (at_builtin; go_must (refine wpList_append_seq _ rfl (.tmp 44) (.tmp 46) 25 rfl W.heap.size 3 j0 (.int .i64 0) 1 8 Tryd.underlying25 hj hy0 hy1 hy2 rfl (by decide) _ _ _ rfl (HO2.out.alloc _) (some ⟨w2.heap.size, 0, none⟩) 1 1 [.int .i64 0] rfl (by simpa using lit_seq w2 #[.int .i64 0] 3 (n := 1) (size := 1) rfl) (by simp [Value.oneCell']) (by unfold maxLen; omega) (by omega) (by simp; omega) (by simp) ?_); intro v3 w3 hown3 hgr3 hbl3) | go_in)
              have hrel : SRel l n W _ v3 (.int .i64 ((k : Int) + 1)) w3 := srel_next hkn HP.out (by rw [HUS.out]; simp [stepSet, z0, z1, z2, z3]) (by rw [HUS.out]; simp [stepOut, z0, z1, z2, z3]) (((HS2.out).alloc _).kept hgr3 (own_apart ((HS2.out).alloc (.cells #[.int .i64 0] 3)) ((HO2.out).alloc (.cells #[.int .i64 0] 3)) (by decide))) hown3 ((HB2.out.alloc _).grown hgr3 (fun j hj => by have := (HO2.out.lt j hj).1; simpa using this))
              have HREL := Go.Lib.hid hrel
              clear hrel hown3 hgr3 hbl3
              go_roundw
              case rel => exact HREL.out
              case measure => simp [intOf]; omega
    · obtain rfl : k = n := by omega
      have htk : l.take k = l := List.take_of_length_le (by rw [HN.out]; exact Nat.le_refl _)
      rw [htk] at hout
      obtain ⟨A2, c2, rfl, _⟩ := own_slice hout
      have H3 : wr.ownsRow W.heap.size 3 1 (.slice A2 k c2) (outs [] l).length (ints (outs [] l)) := by rw [outs_length, HN.out]; exact hout
      have H4 := Go.Lib.hid H3
      clear hset hout hnil1 htk H3
      go_wp2
      exact ⟨rfl, _, by simp [results, Tryd.results10, go_sem], _, _, _, rfl, H4.out, hb⟩

end Go.Proofs.YtgliaglnblhinaaDoor.Sets

/-
  The functions matchChunk and Match of the package compute the greedy search.
  Conditions: sizes.
-/
import Derived.Test.YtgliaglnblhinaaRows
import Derived.Test.YtgliaglnblhinaaPat
import Derived.Test.YtgliaglnblhinaaWords
import Derived.WalkKit
import Derived.WalkSpells
import Derived.WalkLawsBesides
import Derived.ProofKit
import Derived.Lib.Hide
import Derived.Lib.IndexBytes
import Derived.Outline
import Derived.Deep.QuietTactic
import Derived.BigQuiet
import Derived.Deep.LoopGhost
import Derived.Deep.RegionHeld3
namespace Go.Proofs.Ytgliaglnblhinaa
open Go.ChangeShapes Go.WideShapes Go.ChangeAt Go.RowKit Pat

def bs (l : Bs) : ByteArray := ⟨l.toArray⟩
theorem bs_data (s : ByteArray) : bs s.data.toList = s := by cases s; simp [bs]
theorem data_bs (l : Bs) : (bs l).data.toList = l := by simp [bs]






theorem head_tail {s : ByteArray} (h : 0 < s.size) : s.data.toList = s[0] :: (s.extract 1 s.size).data.toList := by
  rw [Go.Lib.extract_to_end]
  have hl : 0 < s.data.toList.length := by simpa using h
  rw [List.drop_one]
  cases e : s.data.toList with
  | nil => rw [e] at hl; simp at hl
  | cons x r =>
    have : s[0] = s.data.toList[0]'hl := rfl
    rw [this]
    simp [e]
theorem bs_empty (l : Bs) : (bs l).toList.isEmpty = l.isEmpty := by rw [ByteArray.toList_eq, data_bs]
def strLen : Value → Nat | .string s => s.size | _ => 0

/-- What matchChunk returns. -/
def chunkOut (r : Option Bs) : Value := match r with
  | some t => .tuple #[.string (bs t), .bool true]
  | none => .tuple #[.string ByteArray.empty, .bool false]

def ChunkPost (r : Option Bs) (W : World) (e : Ending) (W' : World) : Prop := e = .returned (chunkOut r) ∧ Since W W'

set_option maxHeartbeats 400000 in
theorem chunk_any (c s : ByteArray) (hc : c.size ≤ 1000) (hs : s.size ≤ 1000) (w : World) :
    Calls Try.prog 23 #[.string c, .string s] w (ChunkPost (strip c.data.toList s.data.toList) w) := by
  go_enter Try.func23, Try.ntmps23
  go_wp2
  go_loopw [0, 1] (fun cv sv wr => ∃ c' s' : ByteArray, cv = .string c' ∧ sv = .string s' ∧ c'.size ≤ 1000 ∧ s'.size ≤ 1000 ∧ Hid (strip c'.data.toList s'.data.toList = strip c.data.toList s.data.toList) ∧ Since w wr)
    (fun cv _ _ => strLen cv)
  case atStart => exact ⟨c, s, rfl, rfl, hc, hs, rfl, Since.refl _⟩
  case round =>
    obtain ⟨c', s', rfl, rfl, hc', hs', hI, hb⟩ := hrel
    by_cases h1 : 0 < c'.size
    · have hcl := head_tail h1
      by_cases h2 : 0 < s'.size
      · have HC := Go.Lib.hid hcl; have HS := Go.Lib.hid (head_tail h2)
        clear hcl
        go_wp2
        go_quiet (fail)
        go_wp2
        · have hne : (((c'[0].toNat : Nat) : Int) != ((s'[0].toNat : Nat) : Int)) = true := by assumption
          have hR : strip c.data.toList s.data.toList = none := by
            rw [← hI.out, HC.out, HS.out, strip, if_neg]
            intro e; rw [e] at hne; simp at hne
          go_ret2
          exact ⟨by rw [hR]; rfl, hb.drewN _⟩
        · have heq : (((c'[0].toNat : Nat) : Int) != ((s'[0].toNat : Nat) : Int)) = false := by assumption
          go_roundw
          case rel =>
            refine ⟨_, _, rfl, rfl, by rw [ByteArray.size_extract]; omega, by rw [ByteArray.size_extract]; omega, ?_, hb.drewN _⟩
            have e : c'[0] = s'[0] := by
              apply UInt8.toNat_inj.1
              simp at heq
              omega
            show strip _ _ = _
            rw [← hI.out, HC.out, HS.out, strip, if_pos e]
          case measure =>
            simp only [strLen]
            simp
            omega
      · have HC := Go.Lib.hid hcl
        clear hcl
        go_wp2
        have hs0 : s'.data.toList = [] := by
          apply List.eq_nil_of_length_eq_zero
          have : s'.data.toList.length = s'.size := by simp
          omega
        have hR : strip c.data.toList s.data.toList = none := by rw [← hI.out, HC.out, hs0]; rfl
        go_ret2
        exact ⟨by rw [hR]; rfl, hb⟩
    · have hc0 : c'.data.toList = [] := by
        apply List.eq_nil_of_length_eq_zero
        have : c'.data.toList.length = c'.size := by simp
        omega
      have hR : strip c.data.toList s.data.toList = some s'.data.toList := by rw [← hI.out, hc0]; rfl
      have HR := Go.Lib.hid hR
      clear hc0 hR
      go_wp2
      go_ret2
      exact ⟨by rw [HR.out]; simp [chunkOut, bs_data], hb⟩

/-- The cells of components. -/
def flat (cs : List Comp) : List Value := cs.flatMap fun c => [.bool c.1, .string (bs c.2)]

theorem flat_len (cs : List Comp) : (flat cs).length = cs.length * 2 := by
  induction cs with
  | nil => rfl
  | cons c cs ih => simp [flat] at *; omega

theorem flat_at (cs : List Comp) : ∀ (i : Nat) (w : Bool) (l : Bs) (r : List Comp), cs.drop i = (w, l) :: r → (flat cs)[i * 2]? = some (.bool w) ∧ (flat cs)[i * 2 + 1]? = some (.string (bs l)) := by
  induction cs with
  | nil => intro i w l r h; simp at h
  | cons c cs ih =>
    intro i w l r h
    cases i with
    | zero =>
      simp only [List.drop_zero, List.cons.injEq] at h
      obtain ⟨rfl, rfl⟩ := h
      exact ⟨rfl, rfl⟩
    | succ i =>
      have := ih i w l r (by simpa using h)
      have e : flat (c :: cs) = .bool c.1 :: .string (bs c.2) :: flat cs := rfl
      rw [e]
      have e1 : (i + 1) * 2 = i * 2 + 1 + 1 := by omega
      rw [e1]
      exact ⟨by simpa using this.1, by simpa using this.2⟩

theorem isEmpty_size (a : ByteArray) : a.data.toList.isEmpty = ((a.size : Int) == 0) := by
  have h : a.data.toList.length = a.size := by simp
  cases e : a.data.toList with
  | nil => rw [e] at h; simp at h; simp [← h]
  | cons x r => rw [e] at h; simp at h; rw [← h]; simp; omega

theorem chunk_yes (c s : ByteArray) {t : Bs} (hc : c.size ≤ 1000) (hs : s.size ≤ 1000) (h : strip c.data.toList s.data.toList = some t) (w : World) :
    Calls Try.prog 23 #[.string c, .string s] w fun e w' => e = .returned (.tuple #[.string (bs t), .bool true]) ∧ Since w w' := by
  refine (chunk_any c s hc hs w).mono ?_
  rintro e w' ⟨rfl, hs⟩
  rw [h]; exact ⟨rfl, hs⟩
theorem chunk_no (c s : ByteArray) (hc : c.size ≤ 1000) (hs : s.size ≤ 1000) (h : strip c.data.toList s.data.toList = none) (w : World) :
    Calls Try.prog 23 #[.string c, .string s] w fun e w' => e = .returned (.tuple #[.string ByteArray.empty, .bool false]) ∧ Since w w' := by
  refine (chunk_any c s hc hs w).mono ?_
  rintro e w' ⟨rfl, hs⟩
  rw [h]; exact ⟨rfl, hs⟩

theorem keepM {W0 w w' : World} {b i : Nat} {v : Value} (h : Since w w') (hc : w.cell? ⟨b, i, none⟩ = some v) (hs : Since W0 w) : w'.cell? ⟨b, i, none⟩ = some v ∧ Since W0 w' :=
  ⟨cell_since h hc, hs.trans h⟩

def MatchPost (r : Bool) (W : World) (e : Ending) (W' : World) : Prop := e = .returned (.bool r) ∧ Since W W'

set_option maxRecDepth 100000 in
set_option maxHeartbeats 2000000 in
theorem match_any (cs : List Comp) (A : Option Addr) (cap : Nat) (s : ByteArray) (W : World) (hn : cs.length ≤ 100) (hs : s.size ≤ 1000) (hl : ∀ c ∈ cs, c.2.length ≤ 1000)
    (hseq : Seq W 2 A cs.length (flat cs)) :
    Calls Try.prog 20 #[.agg #[.slice A cs.length cap], .string s] W (MatchPost (gm cs s.data.toList) W) := by
  have hS0 : Since W (W.alloc (.cells #[.slice A cs.length cap] 41)) := (Since.refl W).alloc _
  have hbox : (W.alloc (.cells #[.slice A cs.length cap] 41)).cell? ⟨W.heap.size, 0, none⟩ = some (.slice A cs.length cap) := by
    rw [World.cell?_alloc_at _ _ _ _ rfl]; rfl
  generalize hn0 : cs.length = n at *
  have HN := Go.Lib.hid hn0
  clear hn0
  go_enter Try.func20, Try.ntmps20
  go_wp2
  go_step3
  go_wp2
  go_step3
  go_wp2
  go_loopg [1, 16] n (fun g sv iv wr => ∃ (i : Nat) (a : ByteArray), i + g = n ∧ sv = .string a ∧ iv = .int .i64 i ∧ a.size ≤ 1000 ∧ Hid (gm (cs.drop i) a.data.toList = gm cs s.data.toList) ∧ Since (W.alloc (.cells #[.slice A n cap] 41)) wr)
  case atStart => exact ⟨0, s, by omega, rfl, rfl, hs, rfl, Since.refl _⟩
  case round =>
    obtain ⟨i, a, hig, rfl, rfl, ha, hI, hb⟩ := hrel
    cases gk with
    | zero =>
      have hin : ¬ ((i : Int) < (n : Int)) := by omega
      have hR : gm cs s.data.toList = ((a.size : Int) == 0) := by
        rw [← hI.out, List.drop_eq_nil_of_le (by rw [HN.out]; omega), gm]
        exact isEmpty_size a
      have HR := Go.Lib.hid hR
      clear hR
      go_wp2
      try rw [Exit.noGoto_ret]
      go_ret
      exact ⟨by rw [HR.out]; rfl, hS0.trans hb⟩
    | succ g =>
      have hin : (i : Int) < (n : Int) := by omega
      obtain ⟨w, l, r, hd⟩ : ∃ w l r, cs.drop i = (w, l) :: r := by
        have hl : i < cs.length := by rw [HN.out]; omega
        exact ⟨_, _, _, List.drop_eq_getElem_cons hl⟩
      obtain ⟨b, o, rfl, hcs⟩ := hseq.at_ (by omega)
      obtain ⟨f1, f2⟩ := flat_at cs i w l r hd
      have hc1 := cell_since hb (cell_since hS0 (hcs _ _ f1))
      have hc2 := cell_since hb (cell_since hS0 (hcs _ _ f2))
      rw [← Nat.add_assoc] at hc2
      have hll : l.length ≤ 1000 := hl (w, l) (by have : (w, l) ∈ cs.drop i := by rw [hd]; exact List.mem_cons_self ..
                                                  exact List.mem_of_mem_drop this)
      have hbx := cell_since hb hbox
      have HD := Go.Lib.hid hd
      clear hd hseq hcs f1 f2 hl
      have hlit0 : (wr.alloc (.cells #[.bool w, .string (bs l)] 50)).cell? ⟨wr.heap.size, 0, none⟩ = some (.bool w) := by rw [World.cell?_alloc_at _ _ _ _ rfl]; rfl
      have hlit1 : (wr.alloc (.cells #[.bool w, .string (bs l)] 50)).cell? ⟨wr.heap.size, 1, none⟩ = some (.string (bs l)) := by rw [World.cell?_alloc_at _ _ _ _ rfl]; rfl
      have hb1 : Since (W.alloc (.cells #[.slice (some ⟨b, o, none⟩) n cap] 41)) (wr.alloc (.cells #[.bool w, .string (bs l)] 50)) := hb.alloc _
      have hbls : (bs l).size ≤ 1000 := by simpa [bs, ByteArray.size] using hll
      have hlast : ((i : Int) == (n : Int) - 1) = r.isEmpty := by
        have e := congrArg List.length HD.out
        rw [List.length_drop, HN.out] at e
        simp at e
        cases r with
        | nil => simp at e ⊢; omega
        | cons x r => simp at e ⊢; omega
      have hbx1 := cell_since ((Since.refl wr).alloc (.cells #[.bool w, .string (bs l)] 50)) hbx
      generalize hr0 : r.isEmpty = last at *
      have HR0 := Go.Lib.hid hr0
      clear hr0
      by_cases hwl : w = true ∧ l = []
      · obtain ⟨rfl, rfl⟩ := hwl
        have hR : gm cs s.data.toList = true := by rw [← hI.out, HD.out, gm]; rfl
        have HR := Go.Lib.hid hR
        clear hR
        have hem : ((bs []).toList).isEmpty = true := bs_empty []
        go_wp2_with (fail)
        try rw [Exit.noGoto_ret]
        go_ret
        exact ⟨by rw [HR.out]; rfl, hS0.trans hb1⟩
      · have hl0 : w = true → l ≠ [] := fun h e => hwl ⟨h, e⟩
        have hem : w = true → ((bs l).toList).isEmpty = false := fun h => by rw [bs_empty]; exact List.isEmpty_eq_false_iff.2 (hl0 h)
        have hcd := cand_iff l last a.data.toList 0
        cases hc0 : cand l last a.data.toList 0 with
        | some t =>
          obtain ⟨hst, hor⟩ := (hcd t).1 hc0
          have hst2 : strip (bs l).data.toList a.data.toList = some t := by rw [data_bs]; exact (strip_iff _ _ _).2 hst
          have hR : gm r t = gm cs s.data.toList := by
            rw [← hI.out, HD.out, gm, if_neg (by simp; exact hl0), HR0.out, hc0]
          have hts : (bs t).size ≤ 1000 := by
            have e1 := congrArg List.length hst
            simp only [List.drop_zero, List.length_append] at e1
            have e2 : a.data.toList.length = a.size := by simp
            have e3 : (bs t).size = t.length := by simp [bs, ByteArray.size]
            omega
          have HR := Go.Lib.hid hR; have HST := Go.Lib.hid hst; have HC0 := Go.Lib.hid hc0
          clear hR hst hc0 hcd hwl hl0
          have C := chunk_yes (bs l) a hbls ha hst2
          have HC := Go.Lib.hid C
          clear C hst2
          have fin : ∀ w2, Since (wr.alloc (.cells #[.bool w, .string (bs l)] 50)) w2 → ∃ (i' : Nat) (a' : ByteArray), i' + g = n ∧ Value.string (bs t) = .string a' ∧ Value.int .i64 ((i : Int) + 1) = .int .i64 i' ∧ a'.size ≤ 1000 ∧ Hid (gm (cs.drop i') a'.data.toList = gm cs s.data.toList) ∧ Since (W.alloc (.cells #[.slice (some ⟨b, o, none⟩) n cap] 41)) w2 := by
            intro w2 h2
            refine ⟨i + 1, bs t, by omega, rfl, by go_num, hts, ?_, hb1.trans h2⟩
            show gm (cs.drop (i + 1)) (bs t).data.toList = _
            rw [data_bs, ← HR.out]
            congr 1
            have := congrArg List.tail HD.out
            simpa using this
          have FIN := Go.Lib.hid fin
          clear fin
          cases w <;> by_cases ht : t = []
          all_goals
            first
              | (have hz : (((bs t).size : Int) == 0) = true := by (rw [ht]; rfl))
              | (have hz : (((bs t).size : Int) == 0) = false := by (have e3 : (bs t).size = t.length := (by simp [bs, ByteArray.size]); have := List.length_pos_iff.2 ht; exact beq_eq_false_iff_ne.2 (by omega))
                 have hlf : last = false := hor.resolve_left ht
                 subst hlf)
            try have hem2 := hem rfl
            clear hem ht hor
            go_wp2_with (go_at_call 23; refine (HC.out _).mono ?_; rintro e w2 ⟨rfl, hs2⟩; have hm0 := cell_since hs2 hlit0; have hm1 := cell_since hs2 hlit1; have hmx := cell_since hs2 hbx1)
            go_roundg g
            case measure => omega
            case rel => exact FIN.out _ hs2
        | none =>
          cases hst : strip (bs l).data.toList a.data.toList with
          | none =>
            have C := chunk_no (bs l) a hbls ha hst
            have HC := Go.Lib.hid C
            clear C hst hcd hwl
            cases w
            · have hR : gm cs s.data.toList = false := by
                rw [← hI.out, HD.out, gm, if_neg (by simp), HR0.out, hc0]; rfl
              have HR := Go.Lib.hid hR
              clear hR hem hl0 hc0
              go_wp2_with (go_at_call 23; refine (HC.out _).mono ?_; rintro e w2 ⟨rfl, hs2⟩; have hm0 := cell_since hs2 hlit0; have hm1 := cell_since hs2 hlit1; have hmx := cell_since hs2 hbx1)
              try rw [Exit.noGoto_ret]
              go_ret
              exact ⟨by rw [HR.out]; rfl, hS0.trans (hb1.trans hs2)⟩
            · have hem2 := hem rfl
              have hl1 := hl0 rfl
              clear hem hl0
              go_wp2_with (go_at_call 23; refine (HC.out _).mono ?_; rintro e w2 ⟨rfl, hs2⟩; have hm0 := cell_since hs2 hlit0; have hm1 := cell_since hs2 hlit1; have hmx := cell_since hs2 hbx1)
              have hb2 := hb1.trans hs2
              have hF : gm cs s.data.toList = (match find l last a.data.toList a.size 1 with | some t => gm r t | none => false) := by
                rw [← hI.out, HD.out, gm, if_neg (by simp; exact hl1), HR0.out, hc0]
                have : a.data.toList.length = a.size := by simp
                rw [this]; rfl
              have HF := Go.Lib.hid hF
              clear hF hlit0 hlit1 hbx1 hb1 hs2 hc1 hc2 hb hbx
              obtain ⟨wo, rfl⟩ : ∃ wo : World, wo = wr := ⟨_, rfl⟩
              go_loopg [1, 10] a.size (fun g2 av kv wy => ∃ k : Nat, k + g2 = a.size ∧ av = .string a ∧ kv = .int .i64 k ∧ Hid (find l last a.data.toList (a.size - k) (k + 1) = find l last a.data.toList a.size 1) ∧ Since w2 wy)
              case atStart => exact ⟨0, by omega, rfl, rfl, rfl, Since.refl _⟩
              case round =>
                obtain ⟨k, hkg, rfl, rfl, hJ, hs3⟩ := hrel
                have hm0 := cell_since hs3 hm0; have hm1 := cell_since hs3 hm1
                have hbk := hb2.trans hs3
                have HB2 := Go.Lib.hid hb2
                clear hb2
                cases gk with
                | zero =>
                  have hkn : ¬ ((k : Int) < (a.size : Int)) := by omega
                  have hR : gm cs s.data.toList = false := by
                    rw [HF.out, ← hJ.out, show a.size - k = 0 by omega, find]
                  have HR := Go.Lib.hid hR
                  clear hR
                  go_wp2
                  try rw [Exit.noGoto_ret]
                  go_ret
                  exact ⟨by rw [HR.out]; rfl, hS0.trans hbk⟩
                | succ g2 =>
                  have hkn : (k : Int) < (a.size : Int) := by omega
                  have hksz : (a.extract (k + 1) a.size).size ≤ 1000 := by rw [ByteArray.size_extract]; omega
                  have hkd : (a.extract (k + 1) a.size).data.toList = a.data.toList.drop (k + 1) := Go.Lib.extract_to_end a (k + 1)
                  have hwr : IntKind.i64.wrap ((k : Int) + 1) = (k : Int) + 1 := IntWalk.i64_in _ (by omega)
                  have hk1 : (0 : Int) ≤ (k : Int) + 1 := by omega
                  have hk2 : (k : Int) + 1 ≤ (a.size : Int) := by omega
                  have hk3 : ((k : Int) + 1).toNat = k + 1 := by omega
                  have HKD := Go.Lib.hid hkd
                  clear hkd
                  cases hck : cand l last a.data.toList (k + 1) with
                  | some t =>
                    obtain ⟨hst, hor⟩ := (cand_iff _ _ _ _ _).1 hck
                    have hst2 : strip (bs l).data.toList (a.extract (k + 1) a.size).data.toList = some t := by rw [data_bs, HKD.out]; exact (strip_iff _ _ _).2 hst
                    have hR : gm r t = gm cs s.data.toList := by
                      have e := hJ.out
                      rw [show a.size - k = g2 + 1 by omega, find, hck] at e
                      rw [HF.out, ← e]
                    have hts : (bs t).size ≤ 1000 := by
                      have e1 := congrArg List.length hst
                      simp only [List.length_drop, List.length_append] at e1
                      have e2 : a.data.toList.length = a.size := by simp
                      have e3 : (bs t).size = t.length := by simp [bs, ByteArray.size]
                      omega
                    have HR := Go.Lib.hid hR; have HST := Go.Lib.hid hst; have HCK := Go.Lib.hid hck
                    clear hR hst hck
                    have h3 : (t = [] ∧ last = false) ∨ (t = [] ∧ last = true) ∨ (¬ t = [] ∧ last = false) := by
                      by_cases ht : t = []
                      · cases h : last with
                        | true => exact .inr (.inl ⟨ht, rfl⟩)
                        | false => exact .inl ⟨ht, rfl⟩
                      · exact .inr (.inr ⟨ht, hor.resolve_left ht⟩)
                    rcases h3 with ⟨ht, hlf⟩ | ⟨ht, hlf⟩ | ⟨ht, hlf⟩
                    all_goals
                      subst hlf
                      first | (have hz : ¬ ((0 : Int) < ((bs t).size : Int)) := (by (rw [ht]; simp [bs, ByteArray.size]))) | skip
                      have HTT := Go.Lib.hid ht; clear ht hor
                      go_wp2
                      go_region_held3 (fun w' => w'.cell? ⟨wo.heap.size, 1, none⟩ = some (.string (bs l)) ∧ Since w2 w')
                        (first | exact keepM ((Since.refl wr).drew) hm1 hs3 | (go_split_ands; exact keepM (by assumption) (by assumption) (by assumption)))
                        (first | (go_at_call 23; refine (chunk_yes (bs l) (a.extract (k + 1) a.size) hbls hksz hst2 _).mono ?_; rintro e w5 ⟨rfl, hs5⟩))
                      go_split_ands
                      have hfs : Since w2 w5 := by assumption
                      have hfm : w5.cell? ⟨wo.heap.size, 1, none⟩ = some (.string (bs l)) := by assumption
                      have HBK := Go.Lib.hid (HB2.out.trans hfs)
                      have fin : ∃ (i' : Nat) (a' : ByteArray), i' + g = n ∧ Value.string (bs t) = .string a' ∧ Value.int .i64 ((i : Int) + 1) = .int .i64 i' ∧ a'.size ≤ 1000 ∧ Hid (gm (cs.drop i') a'.data.toList = gm cs s.data.toList) ∧ Since (W.alloc (.cells #[.slice (some ⟨b, o, none⟩) n cap] 41)) w5 := by
                        refine ⟨i + 1, bs t, by omega, rfl, by go_num, hts, ?_, HBK.out⟩
                        show gm (cs.drop (i + 1)) (bs t).data.toList = _
                        rw [data_bs, ← HR.out]
                        congr 1
                        have := congrArg List.tail HD.out
                        simpa using this
                      have FIN := Go.Lib.hid fin
                      clear fin hfs hs5
                      go_wp2
                      all_goals
                        go_roundg g
                        case measure => omega
                        case rel => exact FIN.out
                  | none =>
                    have HCK := Go.Lib.hid hck
                    clear hck
                    cases hst2 : strip (bs l).data.toList (a.extract (k + 1) a.size).data.toList with
                    | none =>
                      go_wp2
                      go_region_held3 (fun w' => w'.cell? ⟨wo.heap.size, 1, none⟩ = some (.string (bs l)) ∧ Since w2 w')
                        (first | exact keepM ((Since.refl wr).drew) hm1 hs3 | (go_split_ands; exact keepM (by assumption) (by assumption) (by assumption)))
                        (first | (go_at_call 23; refine (chunk_no (bs l) (a.extract (k + 1) a.size) hbls hksz hst2 _).mono ?_; rintro e w5 ⟨rfl, hs5⟩))
                      go_split_ands
                      have hfs : Since w2 w5 := by assumption
                      have hfm : w5.cell? ⟨wo.heap.size, 1, none⟩ = some (.string (bs l)) := by assumption
                      have HFS := Go.Lib.hid hfs
                      clear hfs hs5
                      go_wp2
                      go_roundg g2
                      case measure => omega
                      case rel =>
                        refine ⟨k + 1, by omega, rfl, by go_num, ?_, HFS.out⟩
                        have e := hJ.out
                        rw [show a.size - k = g2 + 1 by omega, find, HCK.out] at e
                        show _ = _
                        rw [← e, show a.size - (k + 1) = g2 by omega]
                    | some t =>
                      have hst : a.data.toList.drop (k + 1) = l ++ t := by
                        have := (strip_iff _ _ _).1 hst2
                        rw [data_bs, HKD.out] at this
                        exact this
                      have hno : ¬ (t = [] ∨ last = false) := by
                        intro h
                        rw [(cand_iff _ _ _ _ _).2 ⟨hst, h⟩] at HCK
                        exact absurd HCK.out (by simp)
                      have ht : t ≠ [] := fun e => hno (.inl e)
                      have hlt : last = true := by cases h : last with
                        | true => rfl
                        | false => exact absurd (.inr h) hno
                      subst hlt
                      have hz : (0 : Int) < ((bs t).size : Int) := by
                        have e3 : (bs t).size = t.length := by simp [bs, ByteArray.size]
                        have := List.length_pos_iff.2 ht
                        omega
                      clear hst hno ht
                      go_wp2
                      go_region_held3 (fun w' => w'.cell? ⟨wo.heap.size, 1, none⟩ = some (.string (bs l)) ∧ Since w2 w')
                        (first | exact keepM ((Since.refl wr).drew) hm1 hs3 | (go_split_ands; exact keepM (by assumption) (by assumption) (by assumption)))
                        (first | (go_at_call 23; refine (chunk_yes (bs l) (a.extract (k + 1) a.size) hbls hksz hst2 _).mono ?_; rintro e w5 ⟨rfl, hs5⟩))
                      go_split_ands
                      have hfs : Since w2 w5 := by assumption
                      have HFS := Go.Lib.hid hfs
                      clear hfs hs5
                      go_wp2
                      go_roundg g2
                      case measure => omega
                      case rel =>
                        refine ⟨k + 1, by omega, rfl, by go_num, ?_, HFS.out⟩
                        have e := hJ.out
                        rw [show a.size - k = g2 + 1 by omega, find, HCK.out] at e
                        show _ = _
                        rw [← e, show a.size - (k + 1) = g2 by omega]
          | some t0 =>
            have hst0 : a.data.toList.drop 0 = l ++ t0 := by
              have := (strip_iff _ _ _).1 hst
              rw [data_bs] at this
              exact this
            have hno0 : ¬ (t0 = [] ∨ last = false) := by
              intro h
              rw [(hcd t0).2 ⟨hst0, h⟩] at hc0
              exact absurd hc0 (by simp)
            have ht0 : t0 ≠ [] := fun e => hno0 (.inl e)
            have hlt0 : last = true := by
              cases h : last with
              | true => rfl
              | false => exact absurd (.inr h) hno0
            subst hlt0
            have hz0 : (((bs t0).size : Int) == 0) = false := by
              have e3 : (bs t0).size = t0.length := by simp [bs, ByteArray.size]
              have := List.length_pos_iff.2 ht0
              exact beq_eq_false_iff_ne.2 (by omega)
            have C := chunk_yes (bs l) a hbls ha hst
            have HC := Go.Lib.hid C
            clear C hst hcd hwl hst0 hno0 ht0
            cases w
            · have hR : gm cs s.data.toList = false := by
                rw [← hI.out, HD.out, gm, if_neg (by simp), HR0.out, hc0]; rfl
              have HR := Go.Lib.hid hR
              clear hR hem hl0 hc0
              go_wp2_with (go_at_call 23; refine (HC.out _).mono ?_; rintro e w2 ⟨rfl, hs2⟩; have hm0 := cell_since hs2 hlit0; have hm1 := cell_since hs2 hlit1; have hmx := cell_since hs2 hbx1)
              try rw [Exit.noGoto_ret]
              go_ret
              exact ⟨by rw [HR.out]; rfl, hS0.trans (hb1.trans hs2)⟩
            · have hem2 := hem rfl
              have hl1 := hl0 rfl
              clear hem hl0
              go_wp2_with (go_at_call 23; refine (HC.out _).mono ?_; rintro e w2 ⟨rfl, hs2⟩; have hm0 := cell_since hs2 hlit0; have hm1 := cell_since hs2 hlit1; have hmx := cell_since hs2 hbx1)
              have hb2 := hb1.trans hs2
              have hF : gm cs s.data.toList = (match find l true a.data.toList a.size 1 with | some t => gm r t | none => false) := by
                rw [← hI.out, HD.out, gm, if_neg (by simp; exact hl1), HR0.out, hc0]
                have : a.data.toList.length = a.size := by simp
                rw [this]; rfl
              have HF := Go.Lib.hid hF
              clear hF hlit0 hlit1 hbx1 hb1 hs2 hc1 hc2 hb hbx
              obtain ⟨wo, rfl⟩ : ∃ wo : World, wo = wr := ⟨_, rfl⟩
              go_loopg [1, 10] a.size (fun g2 av kv wy => ∃ k : Nat, k + g2 = a.size ∧ av = .string a ∧ kv = .int .i64 k ∧ Hid (find l true a.data.toList (a.size - k) (k + 1) = find l true a.data.toList a.size 1) ∧ Since w2 wy)
              case atStart => exact ⟨0, by omega, rfl, rfl, rfl, Since.refl _⟩
              case round =>
                obtain ⟨k, hkg, rfl, rfl, hJ, hs3⟩ := hrel
                have hm0 := cell_since hs3 hm0; have hm1 := cell_since hs3 hm1
                have hbk := hb2.trans hs3
                have HB2 := Go.Lib.hid hb2
                clear hb2
                cases gk with
                | zero =>
                  have hkn : ¬ ((k : Int) < (a.size : Int)) := by omega
                  have hR : gm cs s.data.toList = false := by
                    rw [HF.out, ← hJ.out, show a.size - k = 0 by omega, find]
                  have HR := Go.Lib.hid hR
                  clear hR
                  go_wp2
                  try rw [Exit.noGoto_ret]
                  go_ret
                  exact ⟨by rw [HR.out]; rfl, hS0.trans hbk⟩
                | succ g2 =>
                  have hkn : (k : Int) < (a.size : Int) := by omega
                  have hksz : (a.extract (k + 1) a.size).size ≤ 1000 := by rw [ByteArray.size_extract]; omega
                  have hkd : (a.extract (k + 1) a.size).data.toList = a.data.toList.drop (k + 1) := Go.Lib.extract_to_end a (k + 1)
                  have hwr : IntKind.i64.wrap ((k : Int) + 1) = (k : Int) + 1 := IntWalk.i64_in _ (by omega)
                  have hk1 : (0 : Int) ≤ (k : Int) + 1 := by omega
                  have hk2 : (k : Int) + 1 ≤ (a.size : Int) := by omega
                  have hk3 : ((k : Int) + 1).toNat = k + 1 := by omega
                  have HKD := Go.Lib.hid hkd
                  clear hkd
                  cases hck : cand l true a.data.toList (k + 1) with
                  | some t =>
                    obtain ⟨hst, hor⟩ := (cand_iff _ _ _ _ _).1 hck
                    have hst2 : strip (bs l).data.toList (a.extract (k + 1) a.size).data.toList = some t := by rw [data_bs, HKD.out]; exact (strip_iff _ _ _).2 hst
                    have hR : gm r t = gm cs s.data.toList := by
                      have e := hJ.out
                      rw [show a.size - k = g2 + 1 by omega, find, hck] at e
                      rw [HF.out, ← e]
                    have hts : (bs t).size ≤ 1000 := by
                      have e1 := congrArg List.length hst
                      simp only [List.length_drop, List.length_append] at e1
                      have e2 : a.data.toList.length = a.size := by simp
                      have e3 : (bs t).size = t.length := by simp [bs, ByteArray.size]
                      omega
                    have HR := Go.Lib.hid hR; have HST := Go.Lib.hid hst; have HCK := Go.Lib.hid hck
                    clear hR hst hck
                    have ht : t = [] := hor.resolve_right (by simp)
                    have hz : ¬ ((0 : Int) < ((bs t).size : Int)) := by rw [ht]; simp [bs, ByteArray.size]
                    have HTT := Go.Lib.hid ht; clear ht hor
                    go_wp2
                    go_region_held3 (fun w' => w'.cell? ⟨wo.heap.size, 1, none⟩ = some (.string (bs l)) ∧ Since w2 w')
                      (first | exact keepM ((Since.refl wr).drew) hm1 hs3 | (go_split_ands; exact keepM (by assumption) (by assumption) (by assumption)))
                      (first | (go_at_call 23; refine (chunk_yes (bs l) (a.extract (k + 1) a.size) hbls hksz hst2 _).mono ?_; rintro e w5 ⟨rfl, hs5⟩))
                    go_split_ands
                    have hfs : Since w2 w5 := by assumption
                    have hfm : w5.cell? ⟨wo.heap.size, 1, none⟩ = some (.string (bs l)) := by assumption
                    have HBK := Go.Lib.hid (HB2.out.trans hfs)
                    have fin : ∃ (i' : Nat) (a' : ByteArray), i' + g = n ∧ Value.string (bs t) = .string a' ∧ Value.int .i64 ((i : Int) + 1) = .int .i64 i' ∧ a'.size ≤ 1000 ∧ Hid (gm (cs.drop i') a'.data.toList = gm cs s.data.toList) ∧ Since (W.alloc (.cells #[.slice (some ⟨b, o, none⟩) n cap] 41)) w5 := by
                      refine ⟨i + 1, bs t, by omega, rfl, by go_num, hts, ?_, HBK.out⟩
                      show gm (cs.drop (i + 1)) (bs t).data.toList = _
                      rw [data_bs, ← HR.out]
                      congr 1
                      have := congrArg List.tail HD.out
                      simpa using this
                    have FIN := Go.Lib.hid fin
                    clear fin hfs hs5
                    go_wp2
                    all_goals
                      go_roundg g
                      case measure => omega
                      case rel => exact FIN.out
                  | none =>
                    have HCK := Go.Lib.hid hck
                    clear hck
                    cases hst2 : strip (bs l).data.toList (a.extract (k + 1) a.size).data.toList with
                    | none =>
                      go_wp2
                      go_region_held3 (fun w' => w'.cell? ⟨wo.heap.size, 1, none⟩ = some (.string (bs l)) ∧ Since w2 w')
                        (first | exact keepM ((Since.refl wr).drew) hm1 hs3 | (go_split_ands; exact keepM (by assumption) (by assumption) (by assumption)))
                        (first | (go_at_call 23; refine (chunk_no (bs l) (a.extract (k + 1) a.size) hbls hksz hst2 _).mono ?_; rintro e w5 ⟨rfl, hs5⟩))
                      go_split_ands
                      have hfs : Since w2 w5 := by assumption
                      have hfm : w5.cell? ⟨wo.heap.size, 1, none⟩ = some (.string (bs l)) := by assumption
                      have HFS := Go.Lib.hid hfs
                      clear hfs hs5
                      go_wp2
                      go_roundg g2
                      case measure => omega
                      case rel =>
                        refine ⟨k + 1, by omega, rfl, by go_num, ?_, HFS.out⟩
                        have e := hJ.out
                        rw [show a.size - k = g2 + 1 by omega, find, HCK.out] at e
                        show _ = _
                        rw [← e, show a.size - (k + 1) = g2 by omega]
                    | some t =>
                      have hst : a.data.toList.drop (k + 1) = l ++ t := by
                        have := (strip_iff _ _ _).1 hst2
                        rw [data_bs, HKD.out] at this
                        exact this
                      have hno : ¬ (t = [] ∨ true = false) := by
                        intro h
                        rw [(cand_iff _ _ _ _ _).2 ⟨hst, h⟩] at HCK
                        exact absurd HCK.out (by simp)
                      have ht : t ≠ [] := fun e => hno (.inl e)
                      have hz : (0 : Int) < ((bs t).size : Int) := by
                        have e3 : (bs t).size = t.length := by simp [bs, ByteArray.size]
                        have := List.length_pos_iff.2 ht
                        omega
                      clear hst hno ht
                      go_wp2
                      go_region_held3 (fun w' => w'.cell? ⟨wo.heap.size, 1, none⟩ = some (.string (bs l)) ∧ Since w2 w')
                        (first | exact keepM ((Since.refl wr).drew) hm1 hs3 | (go_split_ands; exact keepM (by assumption) (by assumption) (by assumption)))
                        (first | (go_at_call 23; refine (chunk_yes (bs l) (a.extract (k + 1) a.size) hbls hksz hst2 _).mono ?_; rintro e w5 ⟨rfl, hs5⟩))
                      go_split_ands
                      have hfs : Since w2 w5 := by assumption
                      have HFS := Go.Lib.hid hfs
                      clear hfs hs5
                      go_wp2
                      go_roundg g2
                      case measure => omega
                      case rel =>
                        refine ⟨k + 1, by omega, rfl, by go_num, ?_, HFS.out⟩
                        have e := hJ.out
                        rw [show a.size - k = g2 + 1 by omega, find, HCK.out] at e
                        show _ = _
                        rw [← e, show a.size - (k + 1) = g2 by omega]

end Go.Proofs.Ytgliaglnblhinaa

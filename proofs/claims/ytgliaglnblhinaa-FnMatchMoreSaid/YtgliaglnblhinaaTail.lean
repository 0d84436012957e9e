import Derived.Test.YtgliaglnblhinaaFront
namespace Go.Proofs.Ytgliaglnblhinaa
namespace fnMatchMore
open Go Go.ChangeShapes Go.WideShapes Go.ChangeAt Go.RowKit Pat
theorem bs_take (p : Bs) (c : Nat) : (bs p).extract 0 c = bs (p.take c) := by
  apply ByteArray.ext
  simp [bs, ByteArray.data_extract]
theorem bs_drop (p : Bs) (c : Nat) : (bs p).extract c (bs p).size = bs (p.drop c) := by
  apply ByteArray.ext
  apply Array.toList_inj.1
  simp only [bs, ByteArray.data_extract, Array.toList_extract, ByteArray.size, List.extract_eq_take_drop]
  simp
  try exact List.take_of_length_le (by simp)
theorem parts_eq (ps : List Bs) (p : Bs) (k c : Nat) :
    ((ps.map fun p => Value.string (bs p)).take (k * 1) ++ [.string ((bs p).extract 0 c), .string ((bs p).extract c (bs p).size)]) ++ (ps.map fun p => Value.string (bs p)).drop ((k + 1) * 1)
      = (ps.take k ++ p.take c :: p.drop c :: ps.drop (k + 1)).map fun p => Value.string (bs p) := by
  rw [bs_take, bs_drop]
  simp [List.map_append, List.map_take, List.map_drop]
theorem split_at {ps : List Bs} {p : Bs} {k : Nat} (h : ps[k]? = some p) : ps = ps.take k ++ p :: ps.drop (k + 1) := by
  have hl : k < ps.length := by
    rcases Nat.lt_or_ge k ps.length with h1 | h1
    · exact h1
    · rw [List.getElem?_eq_none h1] at h; cases h
  rw [List.getElem?_eq_getElem hl] at h
  injection h with h
  subst h
  rw [List.getElem_cons_drop, List.take_append_drop]

set_option maxRecDepth 100000 in
set_option maxHeartbeats 1000000 in
theorem tail : front.T := by
  unfold front
  dsimp only
  intro K ps cap s u v i0 hi hz0 hz1 hz2 n hn hcap HN h1 w1 m1 m2 HM b o k hkn p hp c hcn hc0 HS ONE hs2 h v2 w2 hown2 hK hs2' hc2 low2
  obtain ⟨B, hB, qB⟩ : ∃ B : Addr, (if cap = k + 1 then some (⟨b, o, none⟩ : Addr) else some ⟨b, o + (k + 1), none⟩) = some B ∧ Hid (Seq w1 1 (some B) (n - (k + 1)) ((ps.map fun p => Value.string (bs p)).drop ((k + 1) * 1))) := by
    have h := HS.out.cut (k := k + 1) (by omega) hcap
    by_cases hc : cap = k + 1
    · rw [if_pos hc] at h ⊢; exact ⟨_, rfl, Go.Lib.hid h⟩
    · rw [if_neg hc] at h ⊢; exact ⟨_, rfl, by have := h; simp only [Option.map_some, addr_add, Nat.mul_one] at this; exact Go.Lib.hid (by rw [Nat.mul_one]; exact this)⟩
  have HB := qB
  have hp2 : ((k : Int) + 1).toNat = k + 1 := by omega
  have e0 : (0 : Int) ≤ (k : Int) := by omega
  have e1 : (k : Int) < (n : Int) := by omega
  have e2 : (k : Int) ≤ (cap : Int) := by omega
  have e5 : (0 : Int) ≤ (k : Int) + 1 := by omega
  have e6 : (k : Int) + 1 ≤ (n : Int) := by omega
  have e7 : (n : Int) ≤ (cap : Int) := by omega
  have e8 : (0 : Int) ≤ (c : Int) := by omega
  have e9 : (c : Int) ≤ ((bs p).size : Int) := by omega
  have f1 : k + 2 ≤ maxLen := by unfold maxLen; omega
  have f2 : (k + 2) * 16 ≤ 140737488355328 := by omega
  have f3 : w1.heap.size ≤ w2.heap.size + 1 := Nat.le_succ_of_le hs2'.size
  have f4 : k + 2 + (n - (k + 1)) ≤ maxLen := by unfold maxLen; omega
  have f5 : (k + 2 + (n - (k + 1))) * 16 ≤ 140737488355328 := by omega
  have e3 : IntKind.wrap .i64 ((k : Int) + 1) = (k : Int) + 1 := by rw [IntKind.wrap_i64]; omega
  go_region_held3 (fun w' => w'.cell? ⟨b, o + k, none⟩ = some (.string (bs p)) ∧ Since w1 w')
    (first | (go_split_ands; refine ⟨cell_since ?_ hc0, ?_⟩ <;> (first | assumption | exact Since.drew (by assumption) | exact Since.alloc (by assumption) _ | exact Since.drew (Since.alloc (by assumption) _) | exact Since.grown (Since.alloc (by assumption) _) hgr3 low2 | exact Since.grown (Since.drew (Since.alloc (by assumption) _)) hgr3 low2 | exact Since.grown (by assumption) hgr4 (fun j hj => (hown3.lt j hj).1) | exact Since.grown (Since.drew (by assumption)) hgr4 (fun j hj => (hown3.lt j hj).1))))
    (first | (refine step_append_seq _ (by rfl) (.tmp 47) (.tmp 60) 28 (by rfl) w1.heap.size 9 i0 _ 1 16 Try.underlying28 hi hz0 hz1 hz2 rfl (by decide) v2 k ((ps.map fun p => Value.string (bs p)).take (k * 1)) (by simp [Act.eval, Act.put]) (by first | exact (hown2.alloc _).drew | exact hown2.alloc _ | exact hown2.drew.alloc _) (some ⟨w2.heap.size, 0, none⟩) 2 2 [.string ((bs p).extract 0 c), .string ((bs p).extract c (bs p).size)] (by simp [Act.eval, Act.put]) (by first | exact (lit_seq w2 #[.string ((bs p).extract 0 c), .string ((bs p).extract c (bs p).size)] 9 (n := 2) (size := 1) rfl).since (Since.refl _).drew | exact lit_seq w2 #[.string ((bs p).extract 0 c), .string ((bs p).extract c (bs p).size)] 9 (n := 2) (size := 1) rfl | exact lit_seq w2.drew #[.string ((bs p).extract 0 c), .string ((bs p).extract c (bs p).size)] 9 (n := 2) (size := 1) rfl) (by simp [Value.oneCell']) f1 f2 (by first | exact f3 | (simp; exact f3)) (by simp) ?_; intro v3 w3 hown3 hgr3 hbl3)
           | (refine step_append_seq _ (by rfl) (.tmp 61) (.tmp 65) 28 (by rfl) w1.heap.size 9 i0 _ 1 16 Try.underlying28 hi hz0 hz1 hz2 rfl (by decide) v3 (k + 2) _ (by simp [Act.eval, Act.put]) (by first | exact hown3 | exact hown3.drew) (some B) (n - (k + 1)) (cap - (k + 1)) ((ps.map fun p => Value.string (bs p)).drop ((k + 1) * 1)) (by simp [Act.eval, Act.put]) (by first | exact HB.out.since (by assumption) | (go_split_ands; exact HB.out.since (by assumption)) | (go_split_ands; exact HB.out.since (Since.drew (by assumption)))) (fun u hu => ONE.out u (List.mem_of_mem_drop hu)) f4 f5 (by first | exact Nat.le_trans f3 hgr3.size | (refine Nat.le_trans ?_ hgr3.size; simp; exact f3)) (by simp) ?_; intro v4 w4 hown4 hgr4 hbl4))
  have hs3 : Since w1 w3 := Since.grown (Since.drew (Since.alloc hs2' _)) hgr3 low2
  have hs4 : Since w1 w4 := Since.grown hs3 hgr4 (fun j hj => (hown3.lt j hj).1)
  clear hgr3 hgr4 hbl3 hbl4 hown3 e0 e1 e2 e3 e5 e6 e7 e8 e9 hp2 hB qB HB hown2 low2 hc2
  obtain ⟨A4, c4, rfl, -⟩ := own_slice hown4
  have q4 := Seq.of_own hown4
  rw [parts_eq] at q4
  have hlaw := law (ps.take k) (ps.drop (k + 1)) p c s.data.toList
  rw [← split_at hp] at hlaw
  have hsz : s.size ≤ 1000 := by omega
  have hps : ps.length ≤ 20 := by rw [HN.out]; omega
  generalize hqs : ps.take k ++ p.take c :: p.drop c :: ps.drop (k + 1) = qs at hlaw q4
  have hql : k + 2 + (n - (k + 1)) = qs.length := by
    have := HN.out
    rw [← hqs]; simp; omega
  have hqm : ∀ q ∈ qs, q.length ≤ 20 := by
    intro q hq
    rw [← hqs] at hq
    have hpm : p.length ≤ 20 := HM.out p (List.mem_of_getElem? hp)
    simp only [List.mem_append, List.mem_cons] at hq
    rcases hq with h | h | h | h
    · exact HM.out q (List.mem_of_mem_take h)
    · rw [h, List.length_take]; omega
    · rw [h, List.length_drop]; omega
    · exact HM.out q (List.mem_of_mem_drop h)
  have C1 : Calls Try.prog 11 #[.slice (some ⟨w4.heap.size, 0, none⟩) 2 2, .string s] (w4.alloc (.cells #[.string ⟨#[]⟩, .string ⟨#[]⟩] 9)) (MatchPost true (w4.alloc (.cells #[.string ⟨#[]⟩, .string ⟨#[]⟩] 9))) := by
    have := implMatch [[], []] (some ⟨w4.heap.size, 0, none⟩) 2 s (w4.alloc (.cells #[.string ⟨#[]⟩, .string ⟨#[]⟩] 9)) (by simp) (by simp) hsz (lit_seq w4 #[.string ⟨#[]⟩, .string ⟨#[]⟩] 9 (n := 2) (size := 1) rfl)
    rw [hlaw.1] at this
    exact this
  have C2 : ∀ W', Since w1 W' → Calls Try.prog 11 #[.slice (some ⟨b, o, none⟩) n cap, .string s] W' (MatchPost (gm (comps ps) s.data.toList) W') := by
    intro W' h
    have h2 := HS.out.since h
    have := implMatch ps (some ⟨b, o, none⟩) cap s W' hps HM.out hsz (by rw [HN.out]; exact h2)
    rw [HN.out] at this
    exact this
  have C3 : ∀ W', Since w4 W' → Calls Try.prog 11 #[.slice A4 (k + 2 + (n - (k + 1))) c4, .string s] W' (MatchPost (gm (comps qs) s.data.toList) W') := by
    intro W' h
    have h2 := q4.since h
    rw [hql] at h2 ⊢
    exact implMatch qs A4 c4 s W' (by rw [← hql]; omega) hqm hsz h2
  have h5' : Since w4 (w4.alloc (.cells #[.string ⟨#[]⟩, .string ⟨#[]⟩] 9)) := (Since.refl _).alloc _
  have H1 := Go.Lib.hid C1
  have H2 := Go.Lib.hid C2
  have H3 := Go.Lib.hid C3
  have HL := Go.Lib.hid hlaw.2
  clear C1 C2 C3 q4 hlaw hown4 hqs hql hqm HN HM HS ONE
  cases hg : gm (comps ps) s.data.toList
  · refine hK _ _ ?_
    go_wp2_with fail
    refine H1.out.mono ?_
    rintro e w5 ⟨rfl, hs5⟩
    go_wp2_with fail
    refine (H2.out w5 (hs4.trans (h5'.trans hs5))).mono ?_
    rw [hg]
    rintro e w6 ⟨rfl, hs6⟩
    go_wp2
    go_ret
    exact ⟨rfl, (hs4.trans (h5'.trans hs5)).trans hs6⟩
  · refine hK _ _ ?_
    go_wp2_with fail
    refine H1.out.mono ?_
    rintro e w5 ⟨rfl, hs5⟩
    go_wp2_with fail
    refine (H2.out w5 (hs4.trans (h5'.trans hs5))).mono ?_
    rw [hg]
    rintro e w6 ⟨rfl, hs6⟩
    go_wp2_with fail
    refine (H3.out w6 ((h5'.trans hs5).trans hs6)).mono ?_
    rw [HL.out hg]
    rintro e w7 ⟨rfl, hs7⟩
    go_wp2
    go_ret
    exact ⟨rfl, ((hs4.trans (h5'.trans hs5)).trans hs6).trans hs7⟩
end fnMatchMore
end Go.Proofs.Ytgliaglnblhinaa

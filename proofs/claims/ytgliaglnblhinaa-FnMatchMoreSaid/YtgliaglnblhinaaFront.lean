/-
  For all pieces, strings and choices of a place the law FnMatchMore returns true and leaves its arguments as they were: a wildcard more, anywhere in a pattern, loses no string that matches; a wildcard alone matches each.
  Conditions: none beyond those of the given row.
-/
import Derived.Test.YtgliaglnblhinaaSmall
import Derived.Test.YtgliaglnblhinaaRows
import Derived.SliceStrings
namespace Go.Proofs.Ytgliaglnblhinaa
namespace fnMatchMore
open Go Go.ChangeShapes Go.WideShapes Go.ChangeAt Go.RowKit Pat

theorem info9 : (Try.prog.info? 9).map (fun i => (i.zero, i.size, i.bytes)) = some (some (.string ByteArray.empty), 1, 16) := by kernel_rfl

theorem own_empty (w : World) (e : TypeId) : (w.alloc (.cells #[] e)).ownsRow w.heap.size e 1 (.slice (some ⟨w.heap.size, 0, none⟩) 0 0) 0 [] :=
  ⟨rfl, .inr ⟨_, 0, #[], rfl, Nat.le_refl _, heap_alloc_new w _, Nat.le_refl _, Nat.zero_le _, rfl, rfl⟩⟩

theorem bools (b c d : Bool) (h1 : b = true) (h2 : c = true → d = true) : b = true ∧ (c = true → d = true) := ⟨h1, h2⟩

/-- A walk cut in two: what is left of it, and that the whole follows from what is left. -/
structure Cutting (M : Prop) where
  T : Prop
  h : T → M
structure Later (T : Prop) : Prop where
  out : T
set_option maxRecDepth 100000 in
set_option maxHeartbeats 1000000 in
def front : Cutting (∀ (ps : List Bs) (A : Option Addr) (cap : Nat) (s : ByteArray) (u v : Nat) (W : World) (hn : ps.length ≤ maxLen) (hu : u < 256) (hv : v < 256) (hcap : ps.length ≤ cap) (hA : A = none → ps.length = 0 ∧ cap = 0)
    (hseq : Seq W 1 A ps.length (ps.map fun p => .string (bs p))), Calls Try.prog 5 #[.slice A ps.length cap, .string s, .int .u8 u, .int .u8 v] W fun e w' => e = .returned (.bool true) ∧ Since W w') := by
  refine ⟨?T, fun hT0 => ?h⟩
  case h =>
  have hT := Later.mk hT0
  clear hT0
  intro ps A cap s u v W hn hu hv hcap hA hseq
  have C1 := fits_any ps A cap W hn hseq
  have C2 := small_any ps A cap W hn hseq
  obtain ⟨i0, hi, hz0, hz1, hz2⟩ := info_parts info9
  generalize hn0 : ps.length = n at *
  have HN := Go.Lib.hid hn0
  have H1 := Go.Lib.hid C1
  have H2 := Go.Lib.hid C2
  clear hn0 C1 C2
  go_enter Try.func5, Try.ntmps5
  go_wp2_with fail
  refine H1.out.mono ?_
  rintro e w1 ⟨b1, rfl, rfl⟩
  cases b1
  · go_wp2
    go_ret
    exact ⟨rfl, Since.refl _⟩
  by_cases hs1 : (2147483647 : Int) < (s.size : Int)
  · go_wp2
    go_ret
    exact ⟨rfl, Since.refl _⟩
  go_wp2_with fail
  refine H2.out.mono ?_
  rintro e w1 ⟨b2, rfl, hsm, rfl⟩
  cases b2
  · go_wp2
    go_ret
    exact ⟨rfl, Since.refl _⟩
  by_cases hs2 : (60 : Int) < (s.size : Int)
  · go_wp2
    go_ret
    exact ⟨rfl, Since.refl _⟩
  obtain ⟨m1, m2, m3⟩ := hsm rfl
  rw [HN.out] at m1 m2
  have HM := Go.Lib.hid m3
  clear m3 hsm
  obtain ⟨b, o, rfl, hcs⟩ := hseq.at_ (by omega)
  obtain ⟨k, hk, hkn⟩ : ∃ k, u % n = k ∧ k < n := ⟨_, rfl, Nat.mod_lt _ (by omega)⟩
  obtain ⟨p, hp⟩ : ∃ p, ps[k]? = some p := ⟨_, List.getElem?_eq_getElem (by rw [HN.out]; exact hkn)⟩
  have hpl : (bs p).size ≤ 20 := by rw [bs_size]; exact HM.out p (List.mem_of_getElem? hp)
  obtain ⟨c, hc, hcn⟩ : ∃ c, v % ((bs p).size + 1) = c ∧ c ≤ (bs p).size := ⟨_, rfl, by have := Nat.mod_lt v (show (bs p).size + 1 > 0 by omega); omega⟩
  have hc0 : w1.cell? ⟨b, o + k, none⟩ = some (.string (bs p)) := hcs k _ (by simp [hp])
  have t1 : Int.tmod (u : Int) (n : Int) = (k : Int) := by rw [Int.tmod_eq_emod_of_nonneg (by omega), ← hk]; rfl
  have t2 : Int.tmod (v : Int) ((bs p).size + 1) = (c : Int) := by rw [Int.tmod_eq_emod_of_nonneg (by omega), ← hc]; rfl
  have g1 : (n : Int) ≠ 0 := by omega
  have g2 : ((bs p).size : Int) + 1 ≠ 0 := by omega
  have g3 : wrap64 (((bs p).size : Int) + 1) = (bs p).size + 1 := by unfold wrap64; omega
  have qU : Seq (w1.alloc (.cells #[] 9)) 1 (some ⟨b, o, none⟩) k ((ps.map fun p => Value.string (bs p)).take (k * 1)) := (hseq.upto (by omega)).since ((Since.refl _).alloc _)
  have one : ∀ u ∈ (ps.map fun p => Value.string (bs p)), u.oneCell' = true := by intro u hu; rw [List.mem_map] at hu; obtain ⟨p, _, rfl⟩ := hu; rfl
  have hseq0 := hseq
  have HS := Go.Lib.hid hseq0
  have HC := Go.Lib.hid hcs
  have HU := Go.Lib.hid qU
  have ONE := Go.Lib.hid one
  clear hseq hseq0 hcs qU one
  go_wp2_with (first | (at_builtin; go_must (refine wpList_append_seq _ rfl (.tmp 42) (.tmp 45) 28 rfl w1.heap.size 9 i0 (.string ByteArray.empty) 1 16 Try.underlying28 hi hz0 hz1 hz2 rfl (by decide) _ _ _ rfl (own_empty w1 9) (some ⟨b, o, none⟩) k cap _ rfl HU.out (fun u hu => ONE.out u (List.mem_of_mem_take hu)) (by unfold maxLen; omega) (by omega) (by simp) (by simp) ?_); intro v2 w2 hown2 hgr2 hbl2) | go_in)
  have hs2' : Since w1 w2 := ((Since.refl _).alloc _).grown hgr2 (fun j hj => ((own_empty w1 9).lt j hj).1)
  have hc2 := cell_since hs2' hc0
  rw [Nat.zero_add, List.nil_append] at hown2
  have low2 : ∀ j, v2.ownBlock = some j → w1.heap.size ≤ j := fun j hj => (hown2.lt j hj).1
  clear hgr2 hbl2
  clear t1 t2 g1 g2 g3 hs1 hu hv hk hc hpl hA H1 H2 HC HU
  revert ps cap s u v n w1 b o k p c v2 w2 i0
  rename_i K
  revert K
  exact hT.out

end fnMatchMore
end Go.Proofs.Ytgliaglnblhinaa

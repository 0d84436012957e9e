/-
  impl.Unescape, walked: it answers as the plain reading does.
  Conditions: sizes.
-/
import Derived.Test.YthklhdeegmanbaaDoorQuoteF
import Derived.Test.YthklhdeegmanbaaDoorQuoteT
import Derived.Lib.ConvBytes
import Derived.Laws.IdiomStrings
import Derived.Shelf.Bytes.SlSmallAll
import Derived.RegionTactic
import Derived.BigRegion
namespace Go.Proofs.YthklhdeegmanbaaDoor.Esc
open Go Go.ChangeShapes Go.WideShapes Go.ChangeAt Go.RowKit

theorem bs_toList (s : ByteArray) : bs s.data.toList = s := by cases s; simp [bs]
theorem bs_inj {a b : Bs} (h : bs a = bs b) : a = b := by
  unfold bs at h
  injection h with h
  exact Array.toList_inj.2 h |> fun h => by simpa using h
theorem bytes_since (w : World) (s : ByteArray) : Since w (Lib.bytesWorld w 5 s) := by
  refine ⟨?_, ?_, ?_, ?_, fun k hk => Lib.bytesWorld_at_old w 5 s k hk⟩
  · simp [Lib.bytesWorld, World.freeze, World.alloc, World.drew, -World.alloc_eq, -World.drew_eq]
  · simp [Lib.bytesWorld, World.freeze, World.alloc, World.drew, -World.alloc_eq, -World.drew_eq]
  · simp [Lib.bytesWorld, World.freeze, World.alloc, World.drew, -World.alloc_eq, -World.drew_eq]
  · rw [Lib.bytesWorld_size]; omega
theorem bytes_row (w : World) (l : Bs) : Row (Lib.bytesWorld w 5 (bs l)) w.heap.size 0 l := by
  intro j u hj
  have hlt := (List.getElem?_eq_some_iff.1 hj).1
  rw [Nat.zero_add, Lib.bytesWorld_cell w 5 (bs l) j (by rw [bs_size]; exact hlt)]
  have : (bs l).data.toList.getD j 0 = u := by
    show l.toArray.toList.getD j 0 = u
    simp [List.getD, hj]
  rw [this]

def UPost (l : Bs) (star : Bool) (W : World) (e : Ending) (W' : World) : Prop :=
  Since W W' ∧ ((unq star l = none ∧ e = .returned (.tuple #[.string (bs []), .string (bs []), .bool false])) ∨
    (∃ (s r : Bs), unq star l = some (s, r) ∧ e = .returned (.tuple #[.string (bs s), .string (bs r), .bool true])))

theorem quote_any (l : Bs) (star : Bool) (b o cap : Nat) (W : World) (hn2 : l.length ≤ 2000) (hlc : l.length ≤ cap) (hcap : cap ≤ maxLen) (hrow : Row W b o l) (hT : Tabs W) (hg : Good l) :
    Calls Tryd.prog 10 #[.slice (some ⟨b, o, none⟩) l.length cap, .bool star] W (QPost l star b o W) := by
  cases star
  · exact quote_false l b o cap W hn2 hlc hcap hrow hT hg
  · exact quote_true l b o cap W hn2 hlc hcap hrow hT hg

theorem back_any (l : Bs) (b o i m c : Nat) (A : Option Addr) (w : World) (hrow : Row w b o l) (hm : m = (l.drop i).length) (hA : Tail b o A i m) :
    (convert 28 9 (.slice A m c)).run Tryd.prog w = .ok (.string (bs (l.drop i))) w := by
  rcases hA with h0 | rfl
  · rw [h0] at hm ⊢
    rw [List.eq_nil_of_length_eq_zero hm.symm]
    exact run_convert_bytes_zero w 28 5 Tryd.underlying28 Tryd.underlying5 A c 9 Tryd.underlying9
  · subst hm
    refine run_convert_bytes_back w 28 9 5 ⟨b, o + i, none⟩ c (l.drop i) Tryd.underlying28 Tryd.underlying5 Tryd.underlying9 (fun j hj => ?_)
    have h1 : l[i + j]? = some ((l.drop i)[j]) := by rw [← List.getElem?_drop]; exact List.getElem?_eq_getElem hj
    have := hrow _ _ h1
    rw [addr_add, Nat.add_assoc]
    exact this

set_option maxHeartbeats 1000000 in
theorem unesc_any (l : Bs) (star : Bool) (W : World) (hn2 : l.length ≤ 2000) (hT : Tabs W) (hg : Good l) : Calls Tryd.prog 6 #[.string (bs l), .bool star] W (UPost l star W) := by
  have hconv := Lib.run_convert_string_bytes (P := Tryd.prog) W 9 28 5 (bs l) Tryd.underlying9 Tryd.underlying28 Tryd.underlying5
  have hS := bytes_since W (bs l)
  have hR := bytes_row W l
  have hcap := grownCap_ge W (bs l).size 0 5
  have hcap2 := grownCap_le_maxLen W (bs l).size 0 5 (by rw [bs_size]; unfold maxLen; omega)
  have HQ := Go.Lib.hid (quote_any l star W.heap.size 0 (grownCap W (bs l).size 0 5) (Lib.bytesWorld W 5 (bs l)) hn2 (by rw [bs_size] at hcap; rw [bs_size]; exact hcap) hcap2 hR (tabs_since hT hS) hg)
  rw [bs_size] at *
  have HS := Go.Lib.hid hS
  have HR := Go.Lib.hid hR
  clear hcap hcap2 hT hS hR hg
  go_enter Tryd.func6, Tryd.ntmps6
  go_wp2_with fail
  refine HQ.out.mono ?_
  rintro e w1 ⟨hs1, ⟨hno, t, v, rfl⟩ | ⟨s, i, m, c, A, hyes, hm, hA, rfl⟩⟩
  · have hs2 := HS.out.trans hs1
    have hz : ∀ w, (convert 28 9 (.slice none 0 0)).run Tryd.prog w = .ok (.string (bs [])) w := fun w => run_convert_bytes_zero w 28 5 Tryd.underlying28 Tryd.underlying5 none 0 9 Tryd.underlying9
    have HNO := Go.Lib.hid hno
    clear HQ hno hconv HR hs1
    go_wp2
    go_region
    all_goals go_wp2
    all_goals exact ⟨rfl, _, by simp [results, Tryd.results6, go_sem] <;> rfl, hs2.drew, .inl ⟨HNO.out, rfl⟩⟩
  · have hs2 := HS.out.trans hs1
    have hz := back_any l W.heap.size 0 i m c A w1.drew (HR.out.since (hs1.drew)) hm hA
    have HYES := Go.Lib.hid hyes
    clear HQ hyes hconv HR hs1 hm hA
    go_wp2
    go_region
    all_goals go_wp2
    all_goals exact ⟨rfl, _, by simp [results, Tryd.results6, go_sem] <;> rfl, hs2.drew, .inr ⟨s, _, HYES.out, rfl⟩⟩

end Go.Proofs.YthklhdeegmanbaaDoor.Esc

/-
  For every number, unit, count of zeros and sign the law FnDurationUnit returns true and leaves its arguments as they were: a number of one unit is as many times the unit's milliseconds, with zeros ahead of it, too.
  Conditions: none beyond those of the given row and card (the listed variable is tied to the program's text; the repository beside it is a pruned copy).
-/
import Derived.Test.YtgliaglnblhinaaDoorImpl
import Derived.OpenShut
import Derived.Test.YtgliaglnblhinaaDoorCards
import Derived.Test.YtgliaglnblhinaaDoorTie
import Derived.LaidMore
import Derived.Stop.Joined
import Derived.SevenTiedAt
namespace Go.Proofs.YtgliaglnblhinaaDoor
open Go Go.ChangeShapes Go.WideShapes Go.ChangeAt Go.RowKit Go.Maps Go.WideMaps

theorem append_data (a b : ByteArray) : (a ++ b).data.toList = a.data.toList ++ b.data.toList := by simp [ByteArray.data_append]
theorem append_size (a b : ByteArray) : (a ++ b).size = a.size + b.size := by simp

theorem first_byte {s : ByteArray} {c : UInt8} {r : List UInt8} (h : s.data.toList = c :: r) (hs : 0 < s.size) : s[0] = c := by
  have e : s.data.toList[0]? = some s[0] := by
    have hl : 0 < s.data.toList.length := by simpa using hs
    rw [List.getElem?_eq_getElem hl]; rfl
  rw [h] at e
  simpa using e.symm

theorem first_not {s : ByteArray} {r l : List UInt8} (h : s.data.toList = l ++ r) (hl : l ≠ []) (hd : Digs l) (hs : 0 < s.size) : ((((s[0]'hs).toNat : Nat) : Int) == 45) = false := by
  cases l with
  | nil => exact absurd rfl hl
  | cons c l =>
    have e := first_byte (s := s) (c := c) (r := l ++ r) (by simpa using h) hs
    have := hd c (List.mem_cons_self ..)
    rw [e]
    simp
    omega

theorem ne_nil {d : ByteArray} (h : 1 ≤ d.size) : d.data.toList ≠ [] := by
  intro e
  have : d.data.toList.length = d.size := by simp
  rw [e] at this
  simp at this
  omega

theorem nm_size (k : Nat) (hk : k < 5) : 1 ≤ (ByteArray.mk (nm k).toArray).size ∧ (ByteArray.mk (nm k).toArray).size ≤ 2 := by
  have hk' : k = 0 ∨ k = 1 ∨ k = 2 ∨ k = 3 ∨ k = 4 := by omega
  rcases hk' with rfl | rfl | rfl | rfl | rfl <;> decide

theorem sz_le (k : Nat) (hk : k < 5) : sz k ≤ 86400000 := by
  have hk' : k = 0 ∨ k = 1 ∨ k = 2 ∨ k = 3 ∨ k = 4 := by omega
  rcases hk' with rfl | rfl | rfl | rfl | rfl <;> decide

/-- A text that is read. -/
theorem read_pos (s : ByteArray) (f : Nat) (l r : List UInt8) (hs : s.data.toList = l ++ r) (hl : l ≠ []) (hd : Digs l) (h1 : 1 < s.size) (h2 : s.size ≤ 1000) (hf : f ≤ 9223372036854775807)
    (hg : Good (l ++ r) 0 0 0 false f) (w : World) : Calls Tryd.prog 13 #[.string s] w fun e w' => e = .returned (.tuple #[.int .i64 (f : Int), .bool true]) ∧ Since w w' :=
  impl_parse s f w fun w => parse_pos s f w h1 h2 hf (first_not hs hl hd (by omega)) (by rw [List.drop_zero, hs]; exact hg)

/-- The same behind a minus sign. -/
theorem read_neg (s t : ByteArray) (f : Nat) (ht : t = ⟨#[45]⟩ ++ s) (h1 : 1 ≤ s.size) (h2 : s.size ≤ 999) (hf : f ≤ 9223372036854775807)
    (hg : Good s.data.toList 0 0 0 false f) (w : World) : Calls Tryd.prog 13 #[.string t] w fun e w' => e = .returned (.tuple #[.int .i64 (-(f : Int)), .bool true]) ∧ Since w w' := by
  have hd : t.data.toList = 45 :: s.data.toList := by rw [ht, append_data]; rfl
  have hz : t.size = 1 + s.size := by rw [ht, append_size]; rfl
  refine impl_parse t (-(f : Int)) w fun w => parse_neg t f w (by omega) (by omega) hf ?_ (by rw [hd]; exact hg)
  rw [first_byte hd (by omega)]
  rfl


theorem two_arrays {W0 w1 : World} (h : Since W0 w1) :
    let W := (w1.alloc (.cells #[.string ⟨#[100]⟩, .string ⟨#[104]⟩, .string ⟨#[109]⟩, .string ⟨#[115]⟩, .string ⟨#[109, 115]⟩] 29)).alloc (.cells #[.int .i64 86400000, .int .i64 3600000, .int .i64 60000, .int .i64 1000, .int .i64 1] 30)
    (∀ k, k < 5 → W.cell? ⟨w1.heap.size, k, none⟩ = some (.string ⟨(nm k).toArray⟩)) ∧ (∀ k, k < 5 → W.cell? ⟨w1.heap.size + 1, k, none⟩ = some (.int .i64 (sz k))) ∧ Since W0 W := by
  intro W
  refine ⟨fun k hk => ?_, fun k hk => ?_, ?_⟩
  · rw [World.cell?_alloc_past (hn := by simp), World.cell?_alloc_at _ _ _ _ rfl]
    have hk' : k = 0 ∨ k = 1 ∨ k = 2 ∨ k = 3 ∨ k = 4 := by omega
    rcases hk' with rfl | rfl | rfl | rfl | rfl <;> rfl
  · rw [World.cell?_alloc_at _ _ _ _ (by simp)]
    have hk' : k = 0 ∨ k = 1 ∨ k = 2 ∨ k = 3 ∨ k = 4 := by omega
    rcases hk' with rfl | rfl | rfl | rfl | rfl <;> rfl
  · exact h.step (((Below.refl _ _).alloc (Nat.le_refl _) _).alloc (by simp) _)

theorem keep3 {W0 W w' : World} {b c i j : Nat} {v x : Value} (h : Below W.heap.size W w') (hb : W.cell? ⟨b, i, none⟩ = some v) (hc : W.cell? ⟨c, j, none⟩ = some x) (hs : Since W0 W) :
    w'.cell? ⟨b, i, none⟩ = some v ∧ w'.cell? ⟨c, j, none⟩ = some x ∧ Since W0 w' :=
  ⟨(h.cell (p := ⟨b, i, none⟩) (World.block_lt_of_cell? W _ hb)).trans hb, (h.cell (p := ⟨c, j, none⟩) (World.block_lt_of_cell? W _ hc)).trans hc, hs.step h⟩

def DigI (n : Int) (W : World) (e : Ending) (W' : World) : Prop :=
  ∃ d : ByteArray, e = .returned (.string d) ∧ Digs d.data.toList ∧ num d.data.toList = n.toNat ∧ 1 ≤ d.size ∧ d.size ≤ 100 ∧ Below W.heap.size W W'

theorem cat_ok {a b : ByteArray} (ha : a.size ≤ 100) (hb : b.size ≤ 2) : a.size + b.size ≤ 9223372036854775807 := by omega

theorem digits_int (n w : Int) (hn : 0 ≤ n) (hn' : n < 18446744073709551616) (hw : 1 ≤ w) (hw' : w ≤ 100) (W : World) :
    Calls Tryd.prog 12 #[.int .u64 n, .int .i64 w] W (DigI n W) := by
  obtain ⟨n, rfl⟩ := Int.eq_ofNat_of_zero_le hn
  obtain ⟨w, rfl⟩ := Int.eq_ofNat_of_zero_le (show 0 ≤ w by omega)
  refine (digits_any n w (by omega) (by omega) W).mono ?_
  rintro e w' ⟨d, rfl, h1, h2, h3, h4, h5⟩
  exact ⟨d, rfl, h1, by simpa using h2, by omega, by omega, h5⟩

theorem walk0pos (n u z : Nat) (hn : n < 4294967296) (hu : (u : Int) % 5 = 0) (hu0 : u < 256) (hz0 : z < 256) (w : World) :
    Calls Tryd.prog 5 #[.int .u32 n, .int .u8 u, .int .u8 z, .bool false] w fun e w' => e = .returned (.bool true) ∧ Since w w' := by
  have e1 : IntKind.u64.wrap (n : Int) = n := IntWalk.u64_in _ (by omega)
  have e2 : IntKind.i64.wrap (n : Int) = n := IntWalk.i64_in _ (by omega)
  have e3 : IntKind.i64.wrap (z : Int) = z := IntWalk.i64_in _ (by omega)
  have e4 : ((z : Int)).tmod 15 = (z : Int) % 15 := Int.tmod_eq_emod_of_nonneg (by omega)
  have e5 : IntKind.i64.wrap (1 + (z : Int) % 15) = 1 + (z : Int) % 15 := IntWalk.i64_in _ (by omega)
  have e6 : IntKind.i64.wrap ((n : Int) * 86400000) = (n : Int) * 86400000 := IntWalk.i64_in _ (by omega)
  have E1 := Go.Lib.hid e1; have E2 := Go.Lib.hid e2; have E3 := Go.Lib.hid e3; have E4 := Go.Lib.hid e4; have E5 := Go.Lib.hid e5; have E6 := Go.Lib.hid e6
  clear e1 e2 e3 e4 e5 e6
  go_enter Tryd.func5, Tryd.ntmps5
  go_wp2_with (first | (go_at_call 11; refine (units_any _).mono ?_; rintro e w1 ⟨rfl, hs1⟩))
  obtain ⟨hcS, hcI, hs⟩ := two_arrays hs1
  generalize (w1.alloc (.cells #[.string ⟨#[100]⟩, .string ⟨#[104]⟩, .string ⟨#[109]⟩, .string ⟨#[115]⟩, .string ⟨#[109, 115]⟩] 29)).alloc (.cells #[.int .i64 86400000, .int .i64 3600000, .int .i64 60000, .int .i64 1000, .int .i64 1] 30) = W at *
  have hS := hcS 0 (by omega)
  have hI := hcI 0 (by omega)
  simp only [nm, sz, Nat.add_zero, Nat.zero_add] at hS hI
  clear hcS hcI
  simp only [hu]
  have e1 := E1.out; have e2 := E2.out; have e3 := E3.out; have e4 := E4.out; have e5 := E5.out; have e6 := E6.out
  go_region_held3 (fun w' => w'.cell? ⟨w1.heap.size, 0, none⟩ = some (.string ⟨#[100]⟩) ∧ w'.cell? ⟨w1.heap.size + 1, 0, none⟩ = some (.int .i64 86400000) ∧ Since w w')
    (first | exact keep3 ((Below.refl _ W).drew) hS hI hs | (go_split_ands; exact keep3 (by assumption) (by assumption) (by assumption) (by assumption)))
    (first | (go_at_call 12; refine (digits_int _ _ (by omega) (by omega) (by omega) (by omega) _).mono ?_; rintro e w' ⟨d, rfl, hd, hdn, hd1, hd2, hdb⟩; have hadd := fun wx => run_string_add_sum (P := Tryd.prog) wx d ⟨#[100]⟩ (cat_ok hd2 (by decide))))
  go_split_ands
  have hsf : Since w w' := by assumption
  clear hS hI hs hs1 e1 e2 e3 e4 e5 e6 E1 E2 E3 E4 E5 E6
  have hdl : (d ++ ⟨#[100]⟩ : ByteArray).data.toList = d.data.toList ++ nm 0 := append_data d ⟨#[100]⟩
  have hsz : (d ++ ⟨#[100]⟩ : ByteArray).size = d.size + 1 := append_size d ⟨#[100]⟩
  have hg : Good (d.data.toList ++ nm 0) 0 0 0 false (n * 86400000) := by
    have := good_one 0 d.data.toList (by omega) hd (ne_nil hd1) (by rw [hdn]; omega)
    rw [hdn] at this
    simpa [sz] using this
  have R : ∀ wx, Calls Tryd.prog 13 #[.string (d ++ ⟨#[100]⟩)] wx fun e w' => e = .returned (.tuple #[.int .i64 ((n : Int) * 86400000), .bool true]) ∧ Since wx w' := fun wx => by
    have := read_pos (d ++ ⟨#[100]⟩) (n * 86400000) d.data.toList (nm 0) hdl (ne_nil hd1) hd (by omega) (by omega) (by omega) hg wx
    have e : ((n * 86400000 : Nat) : Int) = (n : Int) * 86400000 := by omega
    rw [e] at this
    exact this
  have HR := Go.Lib.hid R
  clear R hdl hsz hg hdn
  go_wp2_with (go_at_call 13; refine (HR.out _).mono ?_; rintro e w5 ⟨rfl, hs5⟩)
  go_ret
  exact ⟨rfl, hsf.trans (hs5.mono hsf.size)⟩

theorem walk0neg (n u z : Nat) (hn : n < 4294967296) (hu : (u : Int) % 5 = 0) (hu0 : u < 256) (hz0 : z < 256) (w : World) :
    Calls Tryd.prog 5 #[.int .u32 n, .int .u8 u, .int .u8 z, .bool true] w fun e w' => e = .returned (.bool true) ∧ Since w w' := by
  have e1 : IntKind.u64.wrap (n : Int) = n := IntWalk.u64_in _ (by omega)
  have e2 : IntKind.i64.wrap (n : Int) = n := IntWalk.i64_in _ (by omega)
  have e3 : IntKind.i64.wrap (z : Int) = z := IntWalk.i64_in _ (by omega)
  have e4 : ((z : Int)).tmod 15 = (z : Int) % 15 := Int.tmod_eq_emod_of_nonneg (by omega)
  have e5 : IntKind.i64.wrap (1 + (z : Int) % 15) = 1 + (z : Int) % 15 := IntWalk.i64_in _ (by omega)
  have e6 : IntKind.i64.wrap ((n : Int) * 86400000) = (n : Int) * 86400000 := IntWalk.i64_in _ (by omega)
  have E1 := Go.Lib.hid e1; have E2 := Go.Lib.hid e2; have E3 := Go.Lib.hid e3; have E4 := Go.Lib.hid e4; have E5 := Go.Lib.hid e5; have E6 := Go.Lib.hid e6
  clear e1 e2 e3 e4 e5 e6
  go_enter Tryd.func5, Tryd.ntmps5
  go_wp2_with (first | (go_at_call 11; refine (units_any _).mono ?_; rintro e w1 ⟨rfl, hs1⟩))
  obtain ⟨hcS, hcI, hs⟩ := two_arrays hs1
  generalize (w1.alloc (.cells #[.string ⟨#[100]⟩, .string ⟨#[104]⟩, .string ⟨#[109]⟩, .string ⟨#[115]⟩, .string ⟨#[109, 115]⟩] 29)).alloc (.cells #[.int .i64 86400000, .int .i64 3600000, .int .i64 60000, .int .i64 1000, .int .i64 1] 30) = W at *
  have hS := hcS 0 (by omega)
  have hI := hcI 0 (by omega)
  simp only [nm, sz, Nat.add_zero, Nat.zero_add] at hS hI
  clear hcS hcI
  simp only [hu]
  have e1 := E1.out; have e2 := E2.out; have e3 := E3.out; have e4 := E4.out; have e5 := E5.out; have e6 := E6.out
  go_region_held3 (fun w' => w'.cell? ⟨w1.heap.size, 0, none⟩ = some (.string ⟨#[100]⟩) ∧ w'.cell? ⟨w1.heap.size + 1, 0, none⟩ = some (.int .i64 86400000) ∧ Since w w')
    (first | exact keep3 ((Below.refl _ W).drew) hS hI hs | (go_split_ands; exact keep3 (by assumption) (by assumption) (by assumption) (by assumption)))
    (first | (go_at_call 12; refine (digits_int _ _ (by omega) (by omega) (by omega) (by omega) _).mono ?_; rintro e w' ⟨d, rfl, hd, hdn, hd1, hd2, hdb⟩; have hadd := fun wx => run_string_add_sum (P := Tryd.prog) wx d ⟨#[100]⟩ (cat_ok hd2 (by decide))))
  go_split_ands
  have hsf : Since w w' := by assumption
  clear hS hI hs hs1 e1 e2 e3 e4 e5 e6 E1 E2 E3 E4 E5 E6
  have hdl : (d ++ ⟨#[100]⟩ : ByteArray).data.toList = d.data.toList ++ nm 0 := append_data d ⟨#[100]⟩
  have hsz : (d ++ ⟨#[100]⟩ : ByteArray).size = d.size + 1 := append_size d ⟨#[100]⟩
  have hg : Good (d.data.toList ++ nm 0) 0 0 0 false (n * 86400000) := by
    have := good_one 0 d.data.toList (by omega) hd (ne_nil hd1) (by rw [hdn]; omega)
    rw [hdn] at this
    simpa [sz] using this
  have R : ∀ wx, Calls Tryd.prog 13 #[.string (⟨#[45]⟩ ++ (d ++ ⟨#[100]⟩))] wx fun e w' => e = .returned (.tuple #[.int .i64 (-((n : Int) * 86400000)), .bool true]) ∧ Since wx w' := fun wx => by
    have := read_neg (d ++ ⟨#[100]⟩) (⟨#[45]⟩ ++ (d ++ ⟨#[100]⟩)) (n * 86400000) rfl (by omega) (by omega) (by omega) (by rw [hdl]; exact hg) wx
    have e : ((n * 86400000 : Nat) : Int) = (n : Int) * 86400000 := by omega
    rw [e] at this
    exact this
  have hcat := fun wx => run_string_add_sum (P := Tryd.prog) wx ⟨#[45]⟩ (d ++ ⟨#[100]⟩) (by rw [hsz]; show 1 + _ ≤ _; omega)
  have HR := Go.Lib.hid R
  clear R hdl hsz hg hdn
  go_wp2_with (go_at_call 13; refine (HR.out _).mono ?_; rintro e w5 ⟨rfl, hs5⟩)
  go_ret
  exact ⟨rfl, hsf.trans (hs5.mono hsf.size)⟩

theorem walk1pos (n u z : Nat) (hn : n < 4294967296) (hu : (u : Int) % 5 = 1) (hu0 : u < 256) (hz0 : z < 256) (w : World) :
    Calls Tryd.prog 5 #[.int .u32 n, .int .u8 u, .int .u8 z, .bool false] w fun e w' => e = .returned (.bool true) ∧ Since w w' := by
  have e1 : IntKind.u64.wrap (n : Int) = n := IntWalk.u64_in _ (by omega)
  have e2 : IntKind.i64.wrap (n : Int) = n := IntWalk.i64_in _ (by omega)
  have e3 : IntKind.i64.wrap (z : Int) = z := IntWalk.i64_in _ (by omega)
  have e4 : ((z : Int)).tmod 15 = (z : Int) % 15 := Int.tmod_eq_emod_of_nonneg (by omega)
  have e5 : IntKind.i64.wrap (1 + (z : Int) % 15) = 1 + (z : Int) % 15 := IntWalk.i64_in _ (by omega)
  have e6 : IntKind.i64.wrap ((n : Int) * 3600000) = (n : Int) * 3600000 := IntWalk.i64_in _ (by omega)
  have E1 := Go.Lib.hid e1; have E2 := Go.Lib.hid e2; have E3 := Go.Lib.hid e3; have E4 := Go.Lib.hid e4; have E5 := Go.Lib.hid e5; have E6 := Go.Lib.hid e6
  clear e1 e2 e3 e4 e5 e6
  go_enter Tryd.func5, Tryd.ntmps5
  go_wp2_with (first | (go_at_call 11; refine (units_any _).mono ?_; rintro e w1 ⟨rfl, hs1⟩))
  obtain ⟨hcS, hcI, hs⟩ := two_arrays hs1
  generalize (w1.alloc (.cells #[.string ⟨#[100]⟩, .string ⟨#[104]⟩, .string ⟨#[109]⟩, .string ⟨#[115]⟩, .string ⟨#[109, 115]⟩] 29)).alloc (.cells #[.int .i64 86400000, .int .i64 3600000, .int .i64 60000, .int .i64 1000, .int .i64 1] 30) = W at *
  have hS := hcS 1 (by omega)
  have hI := hcI 1 (by omega)
  simp only [nm, sz, Nat.add_zero, Nat.zero_add] at hS hI
  clear hcS hcI
  simp only [hu]
  have e1 := E1.out; have e2 := E2.out; have e3 := E3.out; have e4 := E4.out; have e5 := E5.out; have e6 := E6.out
  go_region_held3 (fun w' => w'.cell? ⟨w1.heap.size, 1, none⟩ = some (.string ⟨#[104]⟩) ∧ w'.cell? ⟨w1.heap.size + 1, 1, none⟩ = some (.int .i64 3600000) ∧ Since w w')
    (first | exact keep3 ((Below.refl _ W).drew) hS hI hs | (go_split_ands; exact keep3 (by assumption) (by assumption) (by assumption) (by assumption)))
    (first | (go_at_call 12; refine (digits_int _ _ (by omega) (by omega) (by omega) (by omega) _).mono ?_; rintro e w' ⟨d, rfl, hd, hdn, hd1, hd2, hdb⟩; have hadd := fun wx => run_string_add_sum (P := Tryd.prog) wx d ⟨#[104]⟩ (cat_ok hd2 (by decide))))
  go_split_ands
  have hsf : Since w w' := by assumption
  clear hS hI hs hs1 e1 e2 e3 e4 e5 e6 E1 E2 E3 E4 E5 E6
  have hdl : (d ++ ⟨#[104]⟩ : ByteArray).data.toList = d.data.toList ++ nm 1 := append_data d ⟨#[104]⟩
  have hsz : (d ++ ⟨#[104]⟩ : ByteArray).size = d.size + 1 := append_size d ⟨#[104]⟩
  have hg : Good (d.data.toList ++ nm 1) 0 0 0 false (n * 3600000) := by
    have := good_one 1 d.data.toList (by omega) hd (ne_nil hd1) (by rw [hdn]; omega)
    rw [hdn] at this
    simpa [sz] using this
  have R : ∀ wx, Calls Tryd.prog 13 #[.string (d ++ ⟨#[104]⟩)] wx fun e w' => e = .returned (.tuple #[.int .i64 ((n : Int) * 3600000), .bool true]) ∧ Since wx w' := fun wx => by
    have := read_pos (d ++ ⟨#[104]⟩) (n * 3600000) d.data.toList (nm 1) hdl (ne_nil hd1) hd (by omega) (by omega) (by omega) hg wx
    have e : ((n * 3600000 : Nat) : Int) = (n : Int) * 3600000 := by omega
    rw [e] at this
    exact this
  have HR := Go.Lib.hid R
  clear R hdl hsz hg hdn
  go_wp2_with (go_at_call 13; refine (HR.out _).mono ?_; rintro e w5 ⟨rfl, hs5⟩)
  go_ret
  exact ⟨rfl, hsf.trans (hs5.mono hsf.size)⟩

theorem walk1neg (n u z : Nat) (hn : n < 4294967296) (hu : (u : Int) % 5 = 1) (hu0 : u < 256) (hz0 : z < 256) (w : World) :
    Calls Tryd.prog 5 #[.int .u32 n, .int .u8 u, .int .u8 z, .bool true] w fun e w' => e = .returned (.bool true) ∧ Since w w' := by
  have e1 : IntKind.u64.wrap (n : Int) = n := IntWalk.u64_in _ (by omega)
  have e2 : IntKind.i64.wrap (n : Int) = n := IntWalk.i64_in _ (by omega)
  have e3 : IntKind.i64.wrap (z : Int) = z := IntWalk.i64_in _ (by omega)
  have e4 : ((z : Int)).tmod 15 = (z : Int) % 15 := Int.tmod_eq_emod_of_nonneg (by omega)
  have e5 : IntKind.i64.wrap (1 + (z : Int) % 15) = 1 + (z : Int) % 15 := IntWalk.i64_in _ (by omega)
  have e6 : IntKind.i64.wrap ((n : Int) * 3600000) = (n : Int) * 3600000 := IntWalk.i64_in _ (by omega)
  have E1 := Go.Lib.hid e1; have E2 := Go.Lib.hid e2; have E3 := Go.Lib.hid e3; have E4 := Go.Lib.hid e4; have E5 := Go.Lib.hid e5; have E6 := Go.Lib.hid e6
  clear e1 e2 e3 e4 e5 e6
  go_enter Tryd.func5, Tryd.ntmps5
  go_wp2_with (first | (go_at_call 11; refine (units_any _).mono ?_; rintro e w1 ⟨rfl, hs1⟩))
  obtain ⟨hcS, hcI, hs⟩ := two_arrays hs1
  generalize (w1.alloc (.cells #[.string ⟨#[100]⟩, .string ⟨#[104]⟩, .string ⟨#[109]⟩, .string ⟨#[115]⟩, .string ⟨#[109, 115]⟩] 29)).alloc (.cells #[.int .i64 86400000, .int .i64 3600000, .int .i64 60000, .int .i64 1000, .int .i64 1] 30) = W at *
  have hS := hcS 1 (by omega)
  have hI := hcI 1 (by omega)
  simp only [nm, sz, Nat.add_zero, Nat.zero_add] at hS hI
  clear hcS hcI
  simp only [hu]
  have e1 := E1.out; have e2 := E2.out; have e3 := E3.out; have e4 := E4.out; have e5 := E5.out; have e6 := E6.out
  go_region_held3 (fun w' => w'.cell? ⟨w1.heap.size, 1, none⟩ = some (.string ⟨#[104]⟩) ∧ w'.cell? ⟨w1.heap.size + 1, 1, none⟩ = some (.int .i64 3600000) ∧ Since w w')
    (first | exact keep3 ((Below.refl _ W).drew) hS hI hs | (go_split_ands; exact keep3 (by assumption) (by assumption) (by assumption) (by assumption)))
    (first | (go_at_call 12; refine (digits_int _ _ (by omega) (by omega) (by omega) (by omega) _).mono ?_; rintro e w' ⟨d, rfl, hd, hdn, hd1, hd2, hdb⟩; have hadd := fun wx => run_string_add_sum (P := Tryd.prog) wx d ⟨#[104]⟩ (cat_ok hd2 (by decide))))
  go_split_ands
  have hsf : Since w w' := by assumption
  clear hS hI hs hs1 e1 e2 e3 e4 e5 e6 E1 E2 E3 E4 E5 E6
  have hdl : (d ++ ⟨#[104]⟩ : ByteArray).data.toList = d.data.toList ++ nm 1 := append_data d ⟨#[104]⟩
  have hsz : (d ++ ⟨#[104]⟩ : ByteArray).size = d.size + 1 := append_size d ⟨#[104]⟩
  have hg : Good (d.data.toList ++ nm 1) 0 0 0 false (n * 3600000) := by
    have := good_one 1 d.data.toList (by omega) hd (ne_nil hd1) (by rw [hdn]; omega)
    rw [hdn] at this
    simpa [sz] using this
  have R : ∀ wx, Calls Tryd.prog 13 #[.string (⟨#[45]⟩ ++ (d ++ ⟨#[104]⟩))] wx fun e w' => e = .returned (.tuple #[.int .i64 (-((n : Int) * 3600000)), .bool true]) ∧ Since wx w' := fun wx => by
    have := read_neg (d ++ ⟨#[104]⟩) (⟨#[45]⟩ ++ (d ++ ⟨#[104]⟩)) (n * 3600000) rfl (by omega) (by omega) (by omega) (by rw [hdl]; exact hg) wx
    have e : ((n * 3600000 : Nat) : Int) = (n : Int) * 3600000 := by omega
    rw [e] at this
    exact this
  have hcat := fun wx => run_string_add_sum (P := Tryd.prog) wx ⟨#[45]⟩ (d ++ ⟨#[104]⟩) (by rw [hsz]; show 1 + _ ≤ _; omega)
  have HR := Go.Lib.hid R
  clear R hdl hsz hg hdn
  go_wp2_with (go_at_call 13; refine (HR.out _).mono ?_; rintro e w5 ⟨rfl, hs5⟩)
  go_ret
  exact ⟨rfl, hsf.trans (hs5.mono hsf.size)⟩

theorem walk2pos (n u z : Nat) (hn : n < 4294967296) (hu : (u : Int) % 5 = 2) (hu0 : u < 256) (hz0 : z < 256) (w : World) :
    Calls Tryd.prog 5 #[.int .u32 n, .int .u8 u, .int .u8 z, .bool false] w fun e w' => e = .returned (.bool true) ∧ Since w w' := by
  have e1 : IntKind.u64.wrap (n : Int) = n := IntWalk.u64_in _ (by omega)
  have e2 : IntKind.i64.wrap (n : Int) = n := IntWalk.i64_in _ (by omega)
  have e3 : IntKind.i64.wrap (z : Int) = z := IntWalk.i64_in _ (by omega)
  have e4 : ((z : Int)).tmod 15 = (z : Int) % 15 := Int.tmod_eq_emod_of_nonneg (by omega)
  have e5 : IntKind.i64.wrap (1 + (z : Int) % 15) = 1 + (z : Int) % 15 := IntWalk.i64_in _ (by omega)
  have e6 : IntKind.i64.wrap ((n : Int) * 60000) = (n : Int) * 60000 := IntWalk.i64_in _ (by omega)
  have E1 := Go.Lib.hid e1; have E2 := Go.Lib.hid e2; have E3 := Go.Lib.hid e3; have E4 := Go.Lib.hid e4; have E5 := Go.Lib.hid e5; have E6 := Go.Lib.hid e6
  clear e1 e2 e3 e4 e5 e6
  go_enter Tryd.func5, Tryd.ntmps5
  go_wp2_with (first | (go_at_call 11; refine (units_any _).mono ?_; rintro e w1 ⟨rfl, hs1⟩))
  obtain ⟨hcS, hcI, hs⟩ := two_arrays hs1
  generalize (w1.alloc (.cells #[.string ⟨#[100]⟩, .string ⟨#[104]⟩, .string ⟨#[109]⟩, .string ⟨#[115]⟩, .string ⟨#[109, 115]⟩] 29)).alloc (.cells #[.int .i64 86400000, .int .i64 3600000, .int .i64 60000, .int .i64 1000, .int .i64 1] 30) = W at *
  have hS := hcS 2 (by omega)
  have hI := hcI 2 (by omega)
  simp only [nm, sz, Nat.add_zero, Nat.zero_add] at hS hI
  clear hcS hcI
  simp only [hu]
  have e1 := E1.out; have e2 := E2.out; have e3 := E3.out; have e4 := E4.out; have e5 := E5.out; have e6 := E6.out
  go_region_held3 (fun w' => w'.cell? ⟨w1.heap.size, 2, none⟩ = some (.string ⟨#[109]⟩) ∧ w'.cell? ⟨w1.heap.size + 1, 2, none⟩ = some (.int .i64 60000) ∧ Since w w')
    (first | exact keep3 ((Below.refl _ W).drew) hS hI hs | (go_split_ands; exact keep3 (by assumption) (by assumption) (by assumption) (by assumption)))
    (first | (go_at_call 12; refine (digits_int _ _ (by omega) (by omega) (by omega) (by omega) _).mono ?_; rintro e w' ⟨d, rfl, hd, hdn, hd1, hd2, hdb⟩; have hadd := fun wx => run_string_add_sum (P := Tryd.prog) wx d ⟨#[109]⟩ (cat_ok hd2 (by decide))))
  go_split_ands
  have hsf : Since w w' := by assumption
  clear hS hI hs hs1 e1 e2 e3 e4 e5 e6 E1 E2 E3 E4 E5 E6
  have hdl : (d ++ ⟨#[109]⟩ : ByteArray).data.toList = d.data.toList ++ nm 2 := append_data d ⟨#[109]⟩
  have hsz : (d ++ ⟨#[109]⟩ : ByteArray).size = d.size + 1 := append_size d ⟨#[109]⟩
  have hg : Good (d.data.toList ++ nm 2) 0 0 0 false (n * 60000) := by
    have := good_one 2 d.data.toList (by omega) hd (ne_nil hd1) (by rw [hdn]; omega)
    rw [hdn] at this
    simpa [sz] using this
  have R : ∀ wx, Calls Tryd.prog 13 #[.string (d ++ ⟨#[109]⟩)] wx fun e w' => e = .returned (.tuple #[.int .i64 ((n : Int) * 60000), .bool true]) ∧ Since wx w' := fun wx => by
    have := read_pos (d ++ ⟨#[109]⟩) (n * 60000) d.data.toList (nm 2) hdl (ne_nil hd1) hd (by omega) (by omega) (by omega) hg wx
    have e : ((n * 60000 : Nat) : Int) = (n : Int) * 60000 := by omega
    rw [e] at this
    exact this
  have HR := Go.Lib.hid R
  clear R hdl hsz hg hdn
  go_wp2_with (go_at_call 13; refine (HR.out _).mono ?_; rintro e w5 ⟨rfl, hs5⟩)
  go_ret
  exact ⟨rfl, hsf.trans (hs5.mono hsf.size)⟩

theorem walk2neg (n u z : Nat) (hn : n < 4294967296) (hu : (u : Int) % 5 = 2) (hu0 : u < 256) (hz0 : z < 256) (w : World) :
    Calls Tryd.prog 5 #[.int .u32 n, .int .u8 u, .int .u8 z, .bool true] w fun e w' => e = .returned (.bool true) ∧ Since w w' := by
  have e1 : IntKind.u64.wrap (n : Int) = n := IntWalk.u64_in _ (by omega)
  have e2 : IntKind.i64.wrap (n : Int) = n := IntWalk.i64_in _ (by omega)
  have e3 : IntKind.i64.wrap (z : Int) = z := IntWalk.i64_in _ (by omega)
  have e4 : ((z : Int)).tmod 15 = (z : Int) % 15 := Int.tmod_eq_emod_of_nonneg (by omega)
  have e5 : IntKind.i64.wrap (1 + (z : Int) % 15) = 1 + (z : Int) % 15 := IntWalk.i64_in _ (by omega)
  have e6 : IntKind.i64.wrap ((n : Int) * 60000) = (n : Int) * 60000 := IntWalk.i64_in _ (by omega)
  have E1 := Go.Lib.hid e1; have E2 := Go.Lib.hid e2; have E3 := Go.Lib.hid e3; have E4 := Go.Lib.hid e4; have E5 := Go.Lib.hid e5; have E6 := Go.Lib.hid e6
  clear e1 e2 e3 e4 e5 e6
  go_enter Tryd.func5, Tryd.ntmps5
  go_wp2_with (first | (go_at_call 11; refine (units_any _).mono ?_; rintro e w1 ⟨rfl, hs1⟩))
  obtain ⟨hcS, hcI, hs⟩ := two_arrays hs1
  generalize (w1.alloc (.cells #[.string ⟨#[100]⟩, .string ⟨#[104]⟩, .string ⟨#[109]⟩, .string ⟨#[115]⟩, .string ⟨#[109, 115]⟩] 29)).alloc (.cells #[.int .i64 86400000, .int .i64 3600000, .int .i64 60000, .int .i64 1000, .int .i64 1] 30) = W at *
  have hS := hcS 2 (by omega)
  have hI := hcI 2 (by omega)
  simp only [nm, sz, Nat.add_zero, Nat.zero_add] at hS hI
  clear hcS hcI
  simp only [hu]
  have e1 := E1.out; have e2 := E2.out; have e3 := E3.out; have e4 := E4.out; have e5 := E5.out; have e6 := E6.out
  go_region_held3 (fun w' => w'.cell? ⟨w1.heap.size, 2, none⟩ = some (.string ⟨#[109]⟩) ∧ w'.cell? ⟨w1.heap.size + 1, 2, none⟩ = some (.int .i64 60000) ∧ Since w w')
    (first | exact keep3 ((Below.refl _ W).drew) hS hI hs | (go_split_ands; exact keep3 (by assumption) (by assumption) (by assumption) (by assumption)))
    (first | (go_at_call 12; refine (digits_int _ _ (by omega) (by omega) (by omega) (by omega) _).mono ?_; rintro e w' ⟨d, rfl, hd, hdn, hd1, hd2, hdb⟩; have hadd := fun wx => run_string_add_sum (P := Tryd.prog) wx d ⟨#[109]⟩ (cat_ok hd2 (by decide))))
  go_split_ands
  have hsf : Since w w' := by assumption
  clear hS hI hs hs1 e1 e2 e3 e4 e5 e6 E1 E2 E3 E4 E5 E6
  have hdl : (d ++ ⟨#[109]⟩ : ByteArray).data.toList = d.data.toList ++ nm 2 := append_data d ⟨#[109]⟩
  have hsz : (d ++ ⟨#[109]⟩ : ByteArray).size = d.size + 1 := append_size d ⟨#[109]⟩
  have hg : Good (d.data.toList ++ nm 2) 0 0 0 false (n * 60000) := by
    have := good_one 2 d.data.toList (by omega) hd (ne_nil hd1) (by rw [hdn]; omega)
    rw [hdn] at this
    simpa [sz] using this
  have R : ∀ wx, Calls Tryd.prog 13 #[.string (⟨#[45]⟩ ++ (d ++ ⟨#[109]⟩))] wx fun e w' => e = .returned (.tuple #[.int .i64 (-((n : Int) * 60000)), .bool true]) ∧ Since wx w' := fun wx => by
    have := read_neg (d ++ ⟨#[109]⟩) (⟨#[45]⟩ ++ (d ++ ⟨#[109]⟩)) (n * 60000) rfl (by omega) (by omega) (by omega) (by rw [hdl]; exact hg) wx
    have e : ((n * 60000 : Nat) : Int) = (n : Int) * 60000 := by omega
    rw [e] at this
    exact this
  have hcat := fun wx => run_string_add_sum (P := Tryd.prog) wx ⟨#[45]⟩ (d ++ ⟨#[109]⟩) (by rw [hsz]; show 1 + _ ≤ _; omega)
  have HR := Go.Lib.hid R
  clear R hdl hsz hg hdn
  go_wp2_with (go_at_call 13; refine (HR.out _).mono ?_; rintro e w5 ⟨rfl, hs5⟩)
  go_ret
  exact ⟨rfl, hsf.trans (hs5.mono hsf.size)⟩

theorem walk3pos (n u z : Nat) (hn : n < 4294967296) (hu : (u : Int) % 5 = 3) (hu0 : u < 256) (hz0 : z < 256) (w : World) :
    Calls Tryd.prog 5 #[.int .u32 n, .int .u8 u, .int .u8 z, .bool false] w fun e w' => e = .returned (.bool true) ∧ Since w w' := by
  have e1 : IntKind.u64.wrap (n : Int) = n := IntWalk.u64_in _ (by omega)
  have e2 : IntKind.i64.wrap (n : Int) = n := IntWalk.i64_in _ (by omega)
  have e3 : IntKind.i64.wrap (z : Int) = z := IntWalk.i64_in _ (by omega)
  have e4 : ((z : Int)).tmod 15 = (z : Int) % 15 := Int.tmod_eq_emod_of_nonneg (by omega)
  have e5 : IntKind.i64.wrap (1 + (z : Int) % 15) = 1 + (z : Int) % 15 := IntWalk.i64_in _ (by omega)
  have e6 : IntKind.i64.wrap ((n : Int) * 1000) = (n : Int) * 1000 := IntWalk.i64_in _ (by omega)
  have E1 := Go.Lib.hid e1; have E2 := Go.Lib.hid e2; have E3 := Go.Lib.hid e3; have E4 := Go.Lib.hid e4; have E5 := Go.Lib.hid e5; have E6 := Go.Lib.hid e6
  clear e1 e2 e3 e4 e5 e6
  go_enter Tryd.func5, Tryd.ntmps5
  go_wp2_with (first | (go_at_call 11; refine (units_any _).mono ?_; rintro e w1 ⟨rfl, hs1⟩))
  obtain ⟨hcS, hcI, hs⟩ := two_arrays hs1
  generalize (w1.alloc (.cells #[.string ⟨#[100]⟩, .string ⟨#[104]⟩, .string ⟨#[109]⟩, .string ⟨#[115]⟩, .string ⟨#[109, 115]⟩] 29)).alloc (.cells #[.int .i64 86400000, .int .i64 3600000, .int .i64 60000, .int .i64 1000, .int .i64 1] 30) = W at *
  have hS := hcS 3 (by omega)
  have hI := hcI 3 (by omega)
  simp only [nm, sz, Nat.add_zero, Nat.zero_add] at hS hI
  clear hcS hcI
  simp only [hu]
  have e1 := E1.out; have e2 := E2.out; have e3 := E3.out; have e4 := E4.out; have e5 := E5.out; have e6 := E6.out
  go_region_held3 (fun w' => w'.cell? ⟨w1.heap.size, 3, none⟩ = some (.string ⟨#[115]⟩) ∧ w'.cell? ⟨w1.heap.size + 1, 3, none⟩ = some (.int .i64 1000) ∧ Since w w')
    (first | exact keep3 ((Below.refl _ W).drew) hS hI hs | (go_split_ands; exact keep3 (by assumption) (by assumption) (by assumption) (by assumption)))
    (first | (go_at_call 12; refine (digits_int _ _ (by omega) (by omega) (by omega) (by omega) _).mono ?_; rintro e w' ⟨d, rfl, hd, hdn, hd1, hd2, hdb⟩; have hadd := fun wx => run_string_add_sum (P := Tryd.prog) wx d ⟨#[115]⟩ (cat_ok hd2 (by decide))))
  go_split_ands
  have hsf : Since w w' := by assumption
  clear hS hI hs hs1 e1 e2 e3 e4 e5 e6 E1 E2 E3 E4 E5 E6
  have hdl : (d ++ ⟨#[115]⟩ : ByteArray).data.toList = d.data.toList ++ nm 3 := append_data d ⟨#[115]⟩
  have hsz : (d ++ ⟨#[115]⟩ : ByteArray).size = d.size + 1 := append_size d ⟨#[115]⟩
  have hg : Good (d.data.toList ++ nm 3) 0 0 0 false (n * 1000) := by
    have := good_one 3 d.data.toList (by omega) hd (ne_nil hd1) (by rw [hdn]; omega)
    rw [hdn] at this
    simpa [sz] using this
  have R : ∀ wx, Calls Tryd.prog 13 #[.string (d ++ ⟨#[115]⟩)] wx fun e w' => e = .returned (.tuple #[.int .i64 ((n : Int) * 1000), .bool true]) ∧ Since wx w' := fun wx => by
    have := read_pos (d ++ ⟨#[115]⟩) (n * 1000) d.data.toList (nm 3) hdl (ne_nil hd1) hd (by omega) (by omega) (by omega) hg wx
    have e : ((n * 1000 : Nat) : Int) = (n : Int) * 1000 := by omega
    rw [e] at this
    exact this
  have HR := Go.Lib.hid R
  clear R hdl hsz hg hdn
  go_wp2_with (go_at_call 13; refine (HR.out _).mono ?_; rintro e w5 ⟨rfl, hs5⟩)
  go_ret
  exact ⟨rfl, hsf.trans (hs5.mono hsf.size)⟩

theorem walk3neg (n u z : Nat) (hn : n < 4294967296) (hu : (u : Int) % 5 = 3) (hu0 : u < 256) (hz0 : z < 256) (w : World) :
    Calls Tryd.prog 5 #[.int .u32 n, .int .u8 u, .int .u8 z, .bool true] w fun e w' => e = .returned (.bool true) ∧ Since w w' := by
  have e1 : IntKind.u64.wrap (n : Int) = n := IntWalk.u64_in _ (by omega)
  have e2 : IntKind.i64.wrap (n : Int) = n := IntWalk.i64_in _ (by omega)
  have e3 : IntKind.i64.wrap (z : Int) = z := IntWalk.i64_in _ (by omega)
  have e4 : ((z : Int)).tmod 15 = (z : Int) % 15 := Int.tmod_eq_emod_of_nonneg (by omega)
  have e5 : IntKind.i64.wrap (1 + (z : Int) % 15) = 1 + (z : Int) % 15 := IntWalk.i64_in _ (by omega)
  have e6 : IntKind.i64.wrap ((n : Int) * 1000) = (n : Int) * 1000 := IntWalk.i64_in _ (by omega)
  have E1 := Go.Lib.hid e1; have E2 := Go.Lib.hid e2; have E3 := Go.Lib.hid e3; have E4 := Go.Lib.hid e4; have E5 := Go.Lib.hid e5; have E6 := Go.Lib.hid e6
  clear e1 e2 e3 e4 e5 e6
  go_enter Tryd.func5, Tryd.ntmps5
  go_wp2_with (first | (go_at_call 11; refine (units_any _).mono ?_; rintro e w1 ⟨rfl, hs1⟩))
  obtain ⟨hcS, hcI, hs⟩ := two_arrays hs1
  generalize (w1.alloc (.cells #[.string ⟨#[100]⟩, .string ⟨#[104]⟩, .string ⟨#[109]⟩, .string ⟨#[115]⟩, .string ⟨#[109, 115]⟩] 29)).alloc (.cells #[.int .i64 86400000, .int .i64 3600000, .int .i64 60000, .int .i64 1000, .int .i64 1] 30) = W at *
  have hS := hcS 3 (by omega)
  have hI := hcI 3 (by omega)
  simp only [nm, sz, Nat.add_zero, Nat.zero_add] at hS hI
  clear hcS hcI
  simp only [hu]
  have e1 := E1.out; have e2 := E2.out; have e3 := E3.out; have e4 := E4.out; have e5 := E5.out; have e6 := E6.out
  go_region_held3 (fun w' => w'.cell? ⟨w1.heap.size, 3, none⟩ = some (.string ⟨#[115]⟩) ∧ w'.cell? ⟨w1.heap.size + 1, 3, none⟩ = some (.int .i64 1000) ∧ Since w w')
    (first | exact keep3 ((Below.refl _ W).drew) hS hI hs | (go_split_ands; exact keep3 (by assumption) (by assumption) (by assumption) (by assumption)))
    (first | (go_at_call 12; refine (digits_int _ _ (by omega) (by omega) (by omega) (by omega) _).mono ?_; rintro e w' ⟨d, rfl, hd, hdn, hd1, hd2, hdb⟩; have hadd := fun wx => run_string_add_sum (P := Tryd.prog) wx d ⟨#[115]⟩ (cat_ok hd2 (by decide))))
  go_split_ands
  have hsf : Since w w' := by assumption
  clear hS hI hs hs1 e1 e2 e3 e4 e5 e6 E1 E2 E3 E4 E5 E6
  have hdl : (d ++ ⟨#[115]⟩ : ByteArray).data.toList = d.data.toList ++ nm 3 := append_data d ⟨#[115]⟩
  have hsz : (d ++ ⟨#[115]⟩ : ByteArray).size = d.size + 1 := append_size d ⟨#[115]⟩
  have hg : Good (d.data.toList ++ nm 3) 0 0 0 false (n * 1000) := by
    have := good_one 3 d.data.toList (by omega) hd (ne_nil hd1) (by rw [hdn]; omega)
    rw [hdn] at this
    simpa [sz] using this
  have R : ∀ wx, Calls Tryd.prog 13 #[.string (⟨#[45]⟩ ++ (d ++ ⟨#[115]⟩))] wx fun e w' => e = .returned (.tuple #[.int .i64 (-((n : Int) * 1000)), .bool true]) ∧ Since wx w' := fun wx => by
    have := read_neg (d ++ ⟨#[115]⟩) (⟨#[45]⟩ ++ (d ++ ⟨#[115]⟩)) (n * 1000) rfl (by omega) (by omega) (by omega) (by rw [hdl]; exact hg) wx
    have e : ((n * 1000 : Nat) : Int) = (n : Int) * 1000 := by omega
    rw [e] at this
    exact this
  have hcat := fun wx => run_string_add_sum (P := Tryd.prog) wx ⟨#[45]⟩ (d ++ ⟨#[115]⟩) (by rw [hsz]; show 1 + _ ≤ _; omega)
  have HR := Go.Lib.hid R
  clear R hdl hsz hg hdn
  go_wp2_with (go_at_call 13; refine (HR.out _).mono ?_; rintro e w5 ⟨rfl, hs5⟩)
  go_ret
  exact ⟨rfl, hsf.trans (hs5.mono hsf.size)⟩

theorem walk4pos (n u z : Nat) (hn : n < 4294967296) (hu : (u : Int) % 5 = 4) (hu0 : u < 256) (hz0 : z < 256) (w : World) :
    Calls Tryd.prog 5 #[.int .u32 n, .int .u8 u, .int .u8 z, .bool false] w fun e w' => e = .returned (.bool true) ∧ Since w w' := by
  have e1 : IntKind.u64.wrap (n : Int) = n := IntWalk.u64_in _ (by omega)
  have e2 : IntKind.i64.wrap (n : Int) = n := IntWalk.i64_in _ (by omega)
  have e3 : IntKind.i64.wrap (z : Int) = z := IntWalk.i64_in _ (by omega)
  have e4 : ((z : Int)).tmod 15 = (z : Int) % 15 := Int.tmod_eq_emod_of_nonneg (by omega)
  have e5 : IntKind.i64.wrap (1 + (z : Int) % 15) = 1 + (z : Int) % 15 := IntWalk.i64_in _ (by omega)
  have e6 : IntKind.i64.wrap ((n : Int) * 1) = (n : Int) * 1 := IntWalk.i64_in _ (by omega)
  have E1 := Go.Lib.hid e1; have E2 := Go.Lib.hid e2; have E3 := Go.Lib.hid e3; have E4 := Go.Lib.hid e4; have E5 := Go.Lib.hid e5; have E6 := Go.Lib.hid e6
  clear e1 e2 e3 e4 e5 e6
  go_enter Tryd.func5, Tryd.ntmps5
  go_wp2_with (first | (go_at_call 11; refine (units_any _).mono ?_; rintro e w1 ⟨rfl, hs1⟩))
  obtain ⟨hcS, hcI, hs⟩ := two_arrays hs1
  generalize (w1.alloc (.cells #[.string ⟨#[100]⟩, .string ⟨#[104]⟩, .string ⟨#[109]⟩, .string ⟨#[115]⟩, .string ⟨#[109, 115]⟩] 29)).alloc (.cells #[.int .i64 86400000, .int .i64 3600000, .int .i64 60000, .int .i64 1000, .int .i64 1] 30) = W at *
  have hS := hcS 4 (by omega)
  have hI := hcI 4 (by omega)
  simp only [nm, sz, Nat.add_zero, Nat.zero_add] at hS hI
  clear hcS hcI
  simp only [hu]
  have e1 := E1.out; have e2 := E2.out; have e3 := E3.out; have e4 := E4.out; have e5 := E5.out; have e6 := E6.out
  go_region_held3 (fun w' => w'.cell? ⟨w1.heap.size, 4, none⟩ = some (.string ⟨#[109, 115]⟩) ∧ w'.cell? ⟨w1.heap.size + 1, 4, none⟩ = some (.int .i64 1) ∧ Since w w')
    (first | exact keep3 ((Below.refl _ W).drew) hS hI hs | (go_split_ands; exact keep3 (by assumption) (by assumption) (by assumption) (by assumption)))
    (first | (go_at_call 12; refine (digits_int _ _ (by omega) (by omega) (by omega) (by omega) _).mono ?_; rintro e w' ⟨d, rfl, hd, hdn, hd1, hd2, hdb⟩; have hadd := fun wx => run_string_add_sum (P := Tryd.prog) wx d ⟨#[109, 115]⟩ (cat_ok hd2 (by decide))))
  go_split_ands
  have hsf : Since w w' := by assumption
  clear hS hI hs hs1 e1 e2 e3 e4 e5 e6 E1 E2 E3 E4 E5 E6
  have hdl : (d ++ ⟨#[109, 115]⟩ : ByteArray).data.toList = d.data.toList ++ nm 4 := append_data d ⟨#[109, 115]⟩
  have hsz : (d ++ ⟨#[109, 115]⟩ : ByteArray).size = d.size + 2 := append_size d ⟨#[109, 115]⟩
  have hg : Good (d.data.toList ++ nm 4) 0 0 0 false (n * 1) := by
    have := good_one 4 d.data.toList (by omega) hd (ne_nil hd1) (by rw [hdn]; omega)
    rw [hdn] at this
    simpa [sz] using this
  have R : ∀ wx, Calls Tryd.prog 13 #[.string (d ++ ⟨#[109, 115]⟩)] wx fun e w' => e = .returned (.tuple #[.int .i64 ((n : Int) * 1), .bool true]) ∧ Since wx w' := fun wx => by
    have := read_pos (d ++ ⟨#[109, 115]⟩) (n * 1) d.data.toList (nm 4) hdl (ne_nil hd1) hd (by omega) (by omega) (by omega) hg wx
    have e : ((n * 1 : Nat) : Int) = (n : Int) * 1 := by omega
    rw [e] at this
    exact this
  have HR := Go.Lib.hid R
  clear R hdl hsz hg hdn
  go_wp2_with (go_at_call 13; refine (HR.out _).mono ?_; rintro e w5 ⟨rfl, hs5⟩)
  go_ret
  exact ⟨rfl, hsf.trans (hs5.mono hsf.size)⟩

theorem walk4neg (n u z : Nat) (hn : n < 4294967296) (hu : (u : Int) % 5 = 4) (hu0 : u < 256) (hz0 : z < 256) (w : World) :
    Calls Tryd.prog 5 #[.int .u32 n, .int .u8 u, .int .u8 z, .bool true] w fun e w' => e = .returned (.bool true) ∧ Since w w' := by
  have e1 : IntKind.u64.wrap (n : Int) = n := IntWalk.u64_in _ (by omega)
  have e2 : IntKind.i64.wrap (n : Int) = n := IntWalk.i64_in _ (by omega)
  have e3 : IntKind.i64.wrap (z : Int) = z := IntWalk.i64_in _ (by omega)
  have e4 : ((z : Int)).tmod 15 = (z : Int) % 15 := Int.tmod_eq_emod_of_nonneg (by omega)
  have e5 : IntKind.i64.wrap (1 + (z : Int) % 15) = 1 + (z : Int) % 15 := IntWalk.i64_in _ (by omega)
  have e6 : IntKind.i64.wrap ((n : Int) * 1) = (n : Int) * 1 := IntWalk.i64_in _ (by omega)
  have E1 := Go.Lib.hid e1; have E2 := Go.Lib.hid e2; have E3 := Go.Lib.hid e3; have E4 := Go.Lib.hid e4; have E5 := Go.Lib.hid e5; have E6 := Go.Lib.hid e6
  clear e1 e2 e3 e4 e5 e6
  go_enter Tryd.func5, Tryd.ntmps5
  go_wp2_with (first | (go_at_call 11; refine (units_any _).mono ?_; rintro e w1 ⟨rfl, hs1⟩))
  obtain ⟨hcS, hcI, hs⟩ := two_arrays hs1
  generalize (w1.alloc (.cells #[.string ⟨#[100]⟩, .string ⟨#[104]⟩, .string ⟨#[109]⟩, .string ⟨#[115]⟩, .string ⟨#[109, 115]⟩] 29)).alloc (.cells #[.int .i64 86400000, .int .i64 3600000, .int .i64 60000, .int .i64 1000, .int .i64 1] 30) = W at *
  have hS := hcS 4 (by omega)
  have hI := hcI 4 (by omega)
  simp only [nm, sz, Nat.add_zero, Nat.zero_add] at hS hI
  clear hcS hcI
  simp only [hu]
  have e1 := E1.out; have e2 := E2.out; have e3 := E3.out; have e4 := E4.out; have e5 := E5.out; have e6 := E6.out
  go_region_held3 (fun w' => w'.cell? ⟨w1.heap.size, 4, none⟩ = some (.string ⟨#[109, 115]⟩) ∧ w'.cell? ⟨w1.heap.size + 1, 4, none⟩ = some (.int .i64 1) ∧ Since w w')
    (first | exact keep3 ((Below.refl _ W).drew) hS hI hs | (go_split_ands; exact keep3 (by assumption) (by assumption) (by assumption) (by assumption)))
    (first | (go_at_call 12; refine (digits_int _ _ (by omega) (by omega) (by omega) (by omega) _).mono ?_; rintro e w' ⟨d, rfl, hd, hdn, hd1, hd2, hdb⟩; have hadd := fun wx => run_string_add_sum (P := Tryd.prog) wx d ⟨#[109, 115]⟩ (cat_ok hd2 (by decide))))
  go_split_ands
  have hsf : Since w w' := by assumption
  clear hS hI hs hs1 e1 e2 e3 e4 e5 e6 E1 E2 E3 E4 E5 E6
  have hdl : (d ++ ⟨#[109, 115]⟩ : ByteArray).data.toList = d.data.toList ++ nm 4 := append_data d ⟨#[109, 115]⟩
  have hsz : (d ++ ⟨#[109, 115]⟩ : ByteArray).size = d.size + 2 := append_size d ⟨#[109, 115]⟩
  have hg : Good (d.data.toList ++ nm 4) 0 0 0 false (n * 1) := by
    have := good_one 4 d.data.toList (by omega) hd (ne_nil hd1) (by rw [hdn]; omega)
    rw [hdn] at this
    simpa [sz] using this
  have R : ∀ wx, Calls Tryd.prog 13 #[.string (⟨#[45]⟩ ++ (d ++ ⟨#[109, 115]⟩))] wx fun e w' => e = .returned (.tuple #[.int .i64 (-((n : Int) * 1)), .bool true]) ∧ Since wx w' := fun wx => by
    have := read_neg (d ++ ⟨#[109, 115]⟩) (⟨#[45]⟩ ++ (d ++ ⟨#[109, 115]⟩)) (n * 1) rfl (by omega) (by omega) (by omega) (by rw [hdl]; exact hg) wx
    have e : ((n * 1 : Nat) : Int) = (n : Int) * 1 := by omega
    rw [e] at this
    exact this
  have hcat := fun wx => run_string_add_sum (P := Tryd.prog) wx ⟨#[45]⟩ (d ++ ⟨#[109, 115]⟩) (by rw [hsz]; show 1 + _ ≤ _; omega)
  have HR := Go.Lib.hid R
  clear R hdl hsz hg hdn
  go_wp2_with (go_at_call 13; refine (HR.out _).mono ?_; rintro e w5 ⟨rfl, hs5⟩)
  go_ret
  exact ⟨rfl, hsf.trans (hs5.mono hsf.size)⟩

namespace fnDurationUnit
theorem walk (a0 a1 a2 : Int) (a3 : Bool) (w0 : (Lit.int .u32 a0).wf = true) (w1 : (Lit.int .u8 a1).wf = true) (w2 : (Lit.int .u8 a2).wf = true) (w : World) :
    Calls Tryd.prog 5 #[.int .u32 a0, .int .u8 a1, .int .u8 a2, .bool a3] w fun e w' => e = .returned (.bool true) ∧ Below w.heap.size w w' := by
  have b0 := bounds_u32 w0; have b1 := bounds_u8 w1; have b2 := bounds_u8 w2
  obtain ⟨n, rfl⟩ := Int.eq_ofNat_of_zero_le b0.1
  obtain ⟨u, rfl⟩ := Int.eq_ofNat_of_zero_le b1.1
  obtain ⟨z, rfl⟩ := Int.eq_ofNat_of_zero_le b2.1
  have h1 : n < 4294967296 := by omega
  have h2 : u < 256 := by omega
  have h3 : z < 256 := by omega
  have hk : (u : Int) % 5 = 0 ∨ (u : Int) % 5 = 1 ∨ (u : Int) % 5 = 2 ∨ (u : Int) % 5 = 3 ∨ (u : Int) % 5 = 4 := by omega
  rcases hk with hk | hk | hk | hk | hk <;> cases a3
  · exact walk0pos n u z h1 hk h2 h3 w
  · exact walk0neg n u z h1 hk h2 h3 w
  · exact walk1pos n u z h1 hk h2 h3 w
  · exact walk1neg n u z h1 hk h2 h3 w
  · exact walk2pos n u z h1 hk h2 h3 w
  · exact walk2neg n u z h1 hk h2 h3 w
  · exact walk3pos n u z h1 hk h2 h3 w
  · exact walk3neg n u z h1 hk h2 h3 w
  · exact walk4pos n u z h1 hk h2 h3 w
  · exact walk4neg n u z h1 hk h2 h3 w

theorem own : ownKnob Tryd.prog.godebug = none := by kernel_rfl
theorem laidOut : laidOutB Tryd.prog = true := by kernel_rfl

theorem door_met (os : Os) (args : Array Value) : laidMetH Tryd.prog Rows.fnDurationUnitRow.laid ((World.doorLaid Tryd.prog 400 os).forCall (fun _ _ => 0) ⟨#[], args, []⟩).memory :=
  laidMetH_of_parts3 (fuel := 8) (laidMet_of_run' 8 (by kernel_rfl) (by kernel_rfl)) (by kernel_rfl) (by kernel_rfl)

set_option maxRecDepth 100000 in
theorem lifted (os : Os) (started : os.Started) (H : Type) (enc : TypeId × Value → H) :
    ReturnsInHanded {} Tryd.checked os 5 .any (fun w args => (Rows.fnDurationUnitSpec.pre enc Tryd.prog Tryd.f5 [] false w args ∧ laidMetH Tryd.prog Rows.fnDurationUnitRow.laid w) ∧ sizedMet enc Tryd.prog Tryd.f5 (OpenSpec.ofChange Rows.fnDurationUnitSpec) false w args)
      (Rows.fnDurationUnitSpec.post enc Tryd.prog Tryd.f5 false true false false) := by
  refine returnsInHanded_of_change_and (C := Tryd.checked) (X := fun w _ => laidMetH Tryd.prog Rows.fnDurationUnitRow.laid w) (fun _ _ _ hh h => h.of_heap hh) own started (by kernel_rfl) Tryd.func5
    (ChangeSpec.witness_shaped (enc := enc) (C := Tryd.checked) (os := os) (X := fun w _ => laidMetH Tryd.prog Rows.fnDurationUnitRow.laid w) false (World.doorLaid Tryd.prog 400 os) #[.int .u32 0, .int .u8 0, .int .u8 0, .bool false] 8 rfl (World.shaped_of_RefB (by kernel_rfl) (by kernel_rfl)) (by kernel_rfl) (by kernel_rfl) (by kernel_rfl) (door_met os _)) ?_
  intro W base args ds gs before hval0 hW _ _ hL hsized
  have hval : ∀ (j : Nat) t v, Tryd.f5.params[j]? = some t → args[j]? = some v → Value.okWide Tryd.prog W .any base t v := hval0
  have hW' := hW
  obtain ⟨p, q, hA0, hV, rfl, hfz, hnd⟩ := hW
  have hA : DataW.TrodAll enc Tryd.prog W 0 (fun _ => true) true Tryd.f5.params.toList args.toList ds p := hA0
  rw [Tryd.params5] at hA hval
  obtain ⟨v0, vs0, d0, ds0, p0, q0, hargs, rfl, rfl, h0, r0⟩ := trodAll_cons hA
  obtain ⟨v1, vs1, d1, ds1, p1, q1, rfl, rfl, rfl, h1, r1⟩ := trodAll_cons r0
  obtain ⟨v2, vs2, d2, ds2, p2, q2, rfl, rfl, rfl, h2, r2⟩ := trodAll_cons r1
  obtain ⟨v3, vs3, d3, ds3, p3, q3, rfl, rfl, rfl, h3, r3⟩ := trodAll_cons r2
  obtain ⟨rfl, rfl, rfl⟩ := trodAll_nil r3
  obtain rfl : args = #[v0, v1, v2, v3] := by cases args; simp_all
  obtain ⟨rfl, rfl⟩ := trodVars_none hV
  obtain ⟨a0, rfl, rfl, rfl, w0⟩ := open_int Tryd.underlying27 (hval 0 27 v0 rfl rfl) h0
  obtain ⟨a1, rfl, rfl, rfl, w1⟩ := open_int Tryd.underlying5 (hval 1 5 v1 rfl rfl) h1
  obtain ⟨a2, rfl, rfl, rfl, w2⟩ := open_int Tryd.underlying5 (hval 2 5 v2 rfl rfl) h2
  obtain ⟨a3, rfl, rfl, rfl⟩ := open_bool Tryd.underlying4 (hval 3 4 v3 rfl rfl) h3
  clear hA0 hval0
  try simp only [List.append_nil] at hW'
  refine (walk a0 a1 a2 a3 w0 w1 w2 W).mono fun e W' ⟨he, bel⟩ => ?_
  subst he
  exact ⟨_, rfl, _, _, _, [], _, [], hW', trodAll_mk1 (shut_bool Tryd.underlying4 _), (trodAll_cons_mk (shut_int Tryd.underlying27 w0) (trodAll_cons_mk (shut_int Tryd.underlying5 w1) (trodAll_cons_mk (shut_int Tryd.underlying5 w2) (trodAll_cons_mk (shut_bool Tryd.underlying4 _) trodAll_mk0)))), rfl, bel.frame _, fun h => by cases h⟩

theorem over : Rows.fnDurationUnitRow.holds Tryd.pinned (OpenSpec.ofChange Rows.fnDurationUnitSpec) :=
  OpenClaim.holds_of_wide 5 Tryd.f5 rfl rfl rfl rfl rfl rfl rfl ⟨rfl, rfl, rfl, rfl, rfl⟩ rfl rfl rfl rfl rfl (by kernel_rfl) Tryd.func5 (by kernel_rfl)
    (of_decide_eq_true (by kernel_rfl)) (by unfold Func.isWrapper; first | (rw [if_pos (by decide +kernel)]; kernel_rfl) | (rw [if_neg (by decide +kernel)]; exact ⟨rfl, rfl⟩))
    (fun os started H enc _ => lifted os started H enc)

theorem proved : Rows.FnDurationUnitCardSaid :=
  Claim7.holds_tied_plain_at .later [] [.sentinel] true (true, "b7b2e4baf9ca9fd1499d162b2fa37a622377aa7f4a44ec6353ce35d9e50c0b66") false
    over (fun _ h => by cases h) (by kernel_rfl) (fun _ h => by cases h) fnDurationUnit_row_tie rfl ⟨rfl, rfl⟩ (by kernel_rfl) rfl
    (fun f fn hf hfn => by
      obtain rfl : f = 5 := Option.some.inj ((show Tryd.prog.funcNamed "pub-claviger/laws.FnDurationUnit" = some 5 by kernel_rfl).symm.trans hf) |>.symm
      obtain rfl : fn = Tryd.f5 := (Option.some.inj (Tryd.func5.symm.trans hfn)).symm
      exact ⟨by kernel_rfl, fun j t ht => by
        rw [Tryd.params5] at ht
        have hm : t ∈ [27, 5, 5, 4] := by simpa using Array.mem_of_getElem? ht
        have hall : ([27, 5, 5, 4].all fun u => !Tryd.prog.wantsStandIn u) = true := by kernel_rfl
        exact (show Tryd.prog.wantsStandIn t = false by simpa using List.all_eq_true.1 hall t hm)⟩)
    (by kernel_rfl)
#print axioms proved
end fnDurationUnit
end Go.Proofs.YtgliaglnblhinaaDoor

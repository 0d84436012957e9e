/-
  Numerals of FormatInt and zzFour, the powers of ten up to the fourth; plain facts on digits.
  Conditions: sizes.
-/
import Derived.Test.YtlcalmdjgllkcaaDoorParse
import Derived.Lib.ItoaLen
namespace Go.Proofs.YtlcalmdjgllkcaaDoor.Dec
open Go Go.ChangeShapes Go.WideShapes Go.ChangeAt Go.RowKit

theorem num_append (a b : Bs) : num (a ++ b) = num a * 10 ^ b.length + num b := by
  show (a ++ b).foldl _ 0 = _
  rw [List.foldl_append, num_from]
  rfl
theorem num_zeros : ∀ (l : Bs), (∀ c ∈ l, c = 48) → num l = 0
  | [], _ => rfl
  | c :: l, h => by
    obtain rfl := h c List.mem_cons_self
    rw [num_cons, num_zeros l fun x hx => h x (List.mem_cons_of_mem _ hx)]
    simp
theorem digs_append {a b : Bs} (ha : Digs a) (hb : Digs b) : Digs (a ++ b) := fun c hc => (List.mem_append.1 hc).elim (ha c) (hb c)
theorem dig_ofNat (d : Nat) (h : d < 10) : (UInt8.ofNat (48 + d)).toNat = 48 + d := by rw [UInt8.toNat_ofNat']; omega
theorem dec_digs (u : Nat) : Digs (Lib.decDigits u) ∧ num (Lib.decDigits u) = u := by
  induction u using Nat.strongRecOn with
  | _ u ih =>
    rw [Lib.decDigits]
    split
    · rename_i h
      refine ⟨fun c hc => ?_, ?_⟩
      · obtain rfl : c = UInt8.ofNat (48 + u) := by simpa using hc
        rw [dig_ofNat u h]; omega
      · rw [num_cons, dig_ofNat u h]; simp [num]
    · rename_i h
      obtain ⟨h1, h2⟩ := ih (u / 10) (by omega)
      have hd := dig_ofNat (u % 10) (by omega)
      refine ⟨digs_append h1 fun c hc => ?_, ?_⟩
      · obtain rfl : c = UInt8.ofNat (48 + u % 10) := by simpa using hc
        rw [hd]; omega
      · rw [num_append, h2, num_cons, hd]; simp [num]; omega
theorem nDigits_le : ∀ (k u : Nat), u < 10 ^ (k + 1) → Lib.nDigits u ≤ k + 1
  | 0, u, h => by rw [Lib.nDigits_small (by simpa using h)]; omega
  | k + 1, u, h => by
    by_cases h1 : u < 10
    · rw [Lib.nDigits_small h1]; omega
    · rw [Lib.nDigits_big h1]
      have := nDigits_le k (u / 10) (by rw [Nat.pow_succ] at h; omega)
      omega

/-- What the decimal's other law asks of the laid variables. -/
structure RoadW (w : World) : Prop where
  dec : DecW w
  t1 : w.cell? ⟨3, 1, none⟩ = some (.float .f64 4621819117588971520)
  t2 : w.cell? ⟨3, 2, none⟩ = some (.float .f64 4636737291354636288)
  t3 : w.cell? ⟨3, 3, none⟩ = some (.float .f64 4652007308841189376)
  t4 : w.cell? ⟨3, 4, none⟩ = some (.float .f64 4666723172467343360)
  tab : Lib.TabIs Tryd.prog w "internal/strconv.uint64pow10" .u64 Lib.pow10Tab
theorem tab_since {w w' : World} (k : Since w w') (h : Lib.TabIs Tryd.prog w "internal/strconv.uint64pow10" .u64 Lib.pow10Tab) : Lib.TabIs Tryd.prog w' "internal/strconv.uint64pow10" .u64 Lib.pow10Tab := by
  unfold Lib.TabIs World.var? at *
  cases hg : Tryd.prog.globalNamed "internal/strconv.uint64pow10" with
  | none => simp [hg] at h
  | some g =>
    simp only [hg, Option.bind_some] at h ⊢
    have hlt : g < w.heap.size := by
      rcases Nat.lt_or_ge g w.heap.size with h' | h'
      · exact h'
      · rw [Array.getElem?_eq_none h'] at h; simp at h
    rw [Below.block k g hlt]
    exact h
theorem RoadW.since {w w' : World} (h : RoadW w) (k : Since w w') : RoadW w' :=
  ⟨h.dec.since k, cell_since k h.t1, cell_since k h.t2, cell_since k h.t3, cell_since k h.t4, tab_since k h.tab⟩

def fb : Nat → Nat | 0 => 4607182418800017408 | 1 => 4621819117588971520 | 2 => 4636737291354636288 | 3 => 4652007308841189376 | _ => 4666723172467343360
theorem RoadW.cell {w : World} (h : RoadW w) (k : Nat) (hk : k ≤ 4) : w.cell? ⟨3, k, none⟩ = some (.float .f64 (fb k)) := by
  obtain rfl | rfl | rfl | rfl | rfl : k = 0 ∨ k = 1 ∨ k = 2 ∨ k = 3 ∨ k = 4 := by omega
  · exact h.dec.tab
  · exact h.t1
  · exact h.t2
  · exact h.t3
  · exact h.t4

theorem fmul (k : Nat) (hk : k ≤ 4) : ∀ w, (binOp .mul 48 (.float .f64 4607182418800017408) (.float .f64 (fb k))).run Tryd.prog w = .ok (.float .f64 (fb k)) w := by
  obtain rfl | rfl | rfl | rfl | rfl : k = 0 ∨ k = 1 ∨ k = 2 ∨ k = 3 ∨ k = 4 := by omega
  all_goals exact fun w => by kernel_rfl
theorem fconv16 (k : Nat) (hk : k ≤ 4) : ∀ w, (convert 48 47 (.float .f64 (fb k))).run Tryd.prog w = .ok (.int .i16 ((10 ^ k : Nat) : Int)) w := by
  obtain rfl | rfl | rfl | rfl | rfl : k = 0 ∨ k = 1 ∨ k = 2 ∨ k = 3 ∨ k = 4 := by omega
  all_goals exact fun w => by kernel_rfl
theorem fconv64 (k : Nat) (hk : k ≤ 4) : ∀ w, (convert 48 2 (.float .f64 (fb k))).run Tryd.prog w = .ok (.int .i64 ((10 ^ k : Nat) : Int)) w := by
  obtain rfl | rfl | rfl | rfl | rfl : k = 0 ∨ k = 1 ∨ k = 2 ∨ k = 3 ∨ k = 4 := by omega
  all_goals exact fun w => by kernel_rfl

theorem pow10_at0 (w : World) (hW : RoadW w) : Calls Tryd.prog 17 #[.int .i64 0] w fun e w' => e = .returned (.float .f64 4607182418800017408) ∧ w' = w.drew := by
  have h2 := hW.dec.pos
  have h3 := hW.dec.tab
  have hm : ∀ w, (binOp .mul 48 (.float .f64 4607182418800017408) (.float .f64 4607182418800017408)).run Tryd.prog w = .ok (.float .f64 4607182418800017408) w := fun w => by kernel_rfl
  clear hW
  go_enter Tryd.func17, Tryd.ntmps17
  go_wp2
  go_region
  all_goals go_wp2
  all_goals exact ⟨rfl, _, by simp [results, Tryd.results17, go_sem] <;> rfl, rfl, rfl⟩
theorem pow10_at1 (w : World) (hW : RoadW w) : Calls Tryd.prog 17 #[.int .i64 1] w fun e w' => e = .returned (.float .f64 4621819117588971520) ∧ w' = w.drew := by
  have h2 := hW.dec.pos
  have h3 := hW.t1
  have hm : ∀ w, (binOp .mul 48 (.float .f64 4607182418800017408) (.float .f64 4621819117588971520)).run Tryd.prog w = .ok (.float .f64 4621819117588971520) w := fun w => by kernel_rfl
  clear hW
  go_enter Tryd.func17, Tryd.ntmps17
  go_wp2
  go_region
  all_goals go_wp2
  all_goals exact ⟨rfl, _, by simp [results, Tryd.results17, go_sem] <;> rfl, rfl, rfl⟩
theorem pow10_at2 (w : World) (hW : RoadW w) : Calls Tryd.prog 17 #[.int .i64 2] w fun e w' => e = .returned (.float .f64 4636737291354636288) ∧ w' = w.drew := by
  have h2 := hW.dec.pos
  have h3 := hW.t2
  have hm : ∀ w, (binOp .mul 48 (.float .f64 4607182418800017408) (.float .f64 4636737291354636288)).run Tryd.prog w = .ok (.float .f64 4636737291354636288) w := fun w => by kernel_rfl
  clear hW
  go_enter Tryd.func17, Tryd.ntmps17
  go_wp2
  go_region
  all_goals go_wp2
  all_goals exact ⟨rfl, _, by simp [results, Tryd.results17, go_sem] <;> rfl, rfl, rfl⟩
theorem pow10_at3 (w : World) (hW : RoadW w) : Calls Tryd.prog 17 #[.int .i64 3] w fun e w' => e = .returned (.float .f64 4652007308841189376) ∧ w' = w.drew := by
  have h2 := hW.dec.pos
  have h3 := hW.t3
  have hm : ∀ w, (binOp .mul 48 (.float .f64 4607182418800017408) (.float .f64 4652007308841189376)).run Tryd.prog w = .ok (.float .f64 4652007308841189376) w := fun w => by kernel_rfl
  clear hW
  go_enter Tryd.func17, Tryd.ntmps17
  go_wp2
  go_region
  all_goals go_wp2
  all_goals exact ⟨rfl, _, by simp [results, Tryd.results17, go_sem] <;> rfl, rfl, rfl⟩
theorem pow10_at4 (w : World) (hW : RoadW w) : Calls Tryd.prog 17 #[.int .i64 4] w fun e w' => e = .returned (.float .f64 4666723172467343360) ∧ w' = w.drew := by
  have h2 := hW.dec.pos
  have h3 := hW.t4
  have hm : ∀ w, (binOp .mul 48 (.float .f64 4607182418800017408) (.float .f64 4666723172467343360)).run Tryd.prog w = .ok (.float .f64 4666723172467343360) w := fun w => by kernel_rfl
  clear hW
  go_enter Tryd.func17, Tryd.ntmps17
  go_wp2
  go_region
  all_goals go_wp2
  all_goals exact ⟨rfl, _, by simp [results, Tryd.results17, go_sem] <;> rfl, rfl, rfl⟩
theorem pow10_drew (k : Nat) (hk : k ≤ 4) (w : World) (hW : RoadW w) : Calls Tryd.prog 17 #[.int .i64 k] w fun e w' => e = .returned (.float .f64 (fb k)) ∧ w' = w.drew := by
  obtain rfl | rfl | rfl | rfl | rfl : k = 0 ∨ k = 1 ∨ k = 2 ∨ k = 3 ∨ k = 4 := by omega
  · exact pow10_at0 w hW
  · exact pow10_at1 w hW
  · exact pow10_at2 w hW
  · exact pow10_at3 w hW
  · exact pow10_at4 w hW
theorem pow10_any (k : Nat) (hk : k ≤ 4) (w : World) (hW : RoadW w) : Calls Tryd.prog 17 #[.int .i64 k] w fun e w' => e = .returned (.float .f64 (fb k)) ∧ Since w w' := by
  refine (pow10_drew k hk w hW).mono ?_
  rintro e w' ⟨rfl, rfl⟩
  exact ⟨rfl, (Since.refl w).drew⟩

theorem grow_since (w : World) (k : Nat) (os : Array Obj) : Since w (Go.Sort.grow (w.drewN k) os) := by
  have h1 : Since w (w.drewN k) := (Since.refl w).drewN k
  refine h1.trans ⟨rfl, rfl, rfl, ?_, fun j hj => Go.Sort.heap_grow_old _ _ hj⟩
  simp

def FIPost (m : Nat) (W : World) (e : Ending) (W' : World) : Prop :=
  ∃ D : Bs, e = .returned (.string (bs D)) ∧ Digs D ∧ num D = m ∧ 1 ≤ D.length ∧ D.length ≤ 20 ∧ (m < 10000 → D.length ≤ 4) ∧ Since W W'
theorem fi_any (m : Nat) (hm : m ≤ 9223372036854775807) (w : World) (hW : RoadW w) : Calls Tryd.prog 19 #[.int .i64 m, .int .i64 10] w (FIPost m w) := by
  refine (Tryd.strconv_FormatInt_10 m (by omega) (by omega) w hW.tab).mono ?_
  rintro e w' ⟨rfl, k, os, rfl⟩
  obtain ⟨h1, h2⟩ := dec_digs m
  refine ⟨Lib.decDigits m, by rw [Lib.itoa_nonneg]; rfl, h1, h2, ?_, ?_, fun h => ?_, grow_since _ _ _⟩
  · rw [Lib.decDigits_length]; exact Lib.nDigits_pos m
  · rw [Lib.decDigits_length]; exact Lib.nDigits_le20 m (by omega)
  · rw [Lib.decDigits_length]; exact nDigits_le 3 m (by simpa using h)

def ZFPost (p : Nat) (W : World) (e : Ending) (W' : World) : Prop :=
  ∃ D : Bs, e = .returned (.string (bs D)) ∧ Digs D ∧ num D = p ∧ D.length = 4 ∧ Since W W'
set_option maxHeartbeats 1000000 in
theorem four_any (p : Nat) (hp : p < 10000) (w : World) (hW : RoadW w) : Calls Tryd.prog 20 #[.int .i64 p] w (ZFPost p w) := by
  have HF := Go.Lib.hid (fi_any p (by omega) w hW)
  clear hW
  go_enter Tryd.func20, Tryd.ntmps20
  go_wp2_with fail
  refine HF.out.mono ?_
  rintro e w1 ⟨D, rfl, g1, g2, g3, _, g4, g5⟩
  have g6 := g4 hp
  clear HF g4
  go_wp2
  go_loopw [3] (fun sv wr => ∃ L : Bs, sv = .string (bs L) ∧ Digs L ∧ num L = p ∧ 1 ≤ L.length ∧ L.length ≤ 4 ∧ wr = w1) (fun sv _ => 4 - strLen sv)
  case atStart => exact ⟨D, rfl, g1, g2, g3, g6, rfl⟩
  case round =>
    obtain ⟨L, rfl, k1, k2, k3, k4, rfl⟩ := hrel
    have hsz := bs_size L
    by_cases hl : L.length < 4
    · have hadd : ∀ w, (Op.stringOp .add ⟨#[48]⟩ (bs L)).run Tryd.prog w = .ok (.string (bs (48 :: L))) w := fun w => by
        have hb : (⟨#[48]⟩ : ByteArray).size + (bs L).size ≤ 9223372036854775807 := by rw [hsz]; show 1 + L.length ≤ _; omega
        rw [run_string_add_sum w _ _ hb, show (⟨#[48]⟩ : ByteArray) = bs [48] from rfl, bs_append]; rfl
      go_wp2
      go_roundw
      case rel => exact ⟨48 :: L, rfl, fun c hc => (List.mem_cons.1 hc).elim (fun e => by subst e; decide) (k1 c), by rw [num_cons, k2]; simp, by simp, by simp; omega, trivial⟩
      case measure => simp [strLen, bs_size]; omega
    · go_wp2
      exact ⟨rfl, _, by simp [results, Tryd.results20, go_sem] <;> rfl, L, rfl, k1, k2, by omega, g5⟩

end Go.Proofs.YtlcalmdjgllkcaaDoor.Dec

/-
  The decimal's small functions, walked; the digits that ParseInt and ParseUint read, in plain Lean.
  Conditions: sizes.
-/
import Derived.Test.YtlcalmdjgllkcaaDoorWords
import Derived.Test.YtlcalmdjgllkcaaDoorShelf
import Derived.Test.YtlcalmdjgllkcaaDoorDigits
import Derived.RegionTactic
import Derived.BigRegion
import Derived.BigQuiet
import Derived.Deep.QuietTactic
namespace Go.Proofs.YtlcalmdjgllkcaaDoor.Dec
open Go Go.ChangeShapes Go.WideShapes Go.ChangeAt Go.RowKit

abbrev Bs := List UInt8
theorem parseM (M : Nat) (hM : M ≤ 18446744073709551615) : ∀ (l : Bs) (acc : Nat), Digs l → acc ≤ M → Lib.parseUintM M acc l = if acc * 10 ^ l.length + num l ≤ M then .ok (acc * 10 ^ l.length + num l) else .range
  | [], acc, _, ha => by simp [Lib.parseUintM, num, ha]
  | c :: r, acc, hd, ha => by
    have hc := hd c List.mem_cons_self
    have hr : Digs r := fun x hx => hd x (List.mem_cons_of_mem _ hx)
    have e1 : acc * 10 ^ (c :: r).length + num (c :: r) = (acc * 10 + (c.toNat - 48)) * 10 ^ r.length + num r := by
      rw [num_cons, List.length_cons, Nat.pow_succ, Nat.add_mul, Nat.mul_assoc, Nat.mul_comm 10, ← Nat.add_assoc]
    have hp : 1 ≤ 10 ^ r.length := Nat.pow_pos (by decide)
    have hge : acc * 10 + (c.toNat - 48) ≤ (acc * 10 + (c.toNat - 48)) * 10 ^ r.length := Nat.le_mul_of_pos_right _ hp
    rw [e1]
    unfold Lib.parseUintM
    rw [if_pos hc]
    by_cases h1 : 1844674407370955162 ≤ acc
    · rw [if_pos h1, if_neg (by omega)]
    · rw [if_neg h1]
      by_cases h2 : M < acc * 10 + (c.toNat - 48)
      · rw [if_pos h2, if_neg (by omega)]
      · rw [if_neg h2, parseM M hM r _ hr (by omega)]
theorem parseU16 {l : Bs} (hd : Digs l) (hne : l ≠ []) (hn : num l ≤ 65535) : Lib.parseUintB 16 l = .ok (num l) := by
  unfold Lib.parseUintB
  rw [if_neg hne, parseM _ (by decide) l 0 hd (Nat.zero_le _)]
  simp only [Nat.zero_mul, Nat.zero_add]
  rw [if_pos (by omega)]
theorem parseU64 {l : Bs} (hd : Digs l) (hne : l ≠ []) : Lib.parseUintB 64 l = if num l ≤ 18446744073709551615 then .ok (num l) else .range := by
  unfold Lib.parseUintB
  rw [if_neg hne, parseM _ (by decide) l 0 hd (Nat.zero_le _)]
  simp
theorem parse_pos {l : Bs} (hd : Digs l) (hne : l ≠ []) : (num l < 9223372036854775808 → Lib.parseIntB 64 l = .ok (num l : Int)) ∧ (9223372036854775808 ≤ num l → Lib.parseIntB 64 l = .range) := by
  cases l with
  | nil => exact absurd rfl hne
  | cons c r =>
    have hc := hd c List.mem_cons_self
    have h1 : ¬ (c.toNat = 43 ∨ c.toNat = 45) := by omega
    have h2 : ¬ c.toNat = 45 := by omega
    have hU := parseU64 hd hne
    refine ⟨fun h => ?_, fun h => ?_⟩
    · rw [if_pos (by omega)] at hU
      unfold Lib.parseIntB
      dsimp only
      rw [if_neg h1, hU]
      dsimp only
      rw [if_neg (by rintro ⟨_, h5⟩; have : (2 : Nat) ^ (64 - 1) = 9223372036854775808 := by decide
                     omega), if_neg (fun h5 => h2 h5.1), if_neg h2]
    · unfold Lib.parseIntB
      dsimp only
      rw [if_neg h1]
      by_cases h3 : num (c :: r) ≤ 18446744073709551615
      · rw [if_pos h3] at hU
        rw [hU]
        dsimp only
        rw [if_pos ⟨h2, by have : (2 : Nat) ^ (64 - 1) = 9223372036854775808 := by decide
                           omega⟩]
      · rw [if_neg h3] at hU
        rw [hU]
theorem parse_neg {l : Bs} (hd : Digs l) (hne : l ≠ []) : (num l ≤ 9223372036854775808 → Lib.parseIntB 64 (45 :: l) = .ok (-(num l : Int))) ∧ (9223372036854775808 < num l → Lib.parseIntB 64 (45 :: l) = .range) := by
  have h1 : ((45 : UInt8).toNat = 43 ∨ (45 : UInt8).toNat = 45) := by decide
  have h2 : (45 : UInt8).toNat = 45 := by decide
  have hU := parseU64 hd hne
  refine ⟨fun h => ?_, fun h => ?_⟩
  · rw [if_pos (by omega)] at hU
    unfold Lib.parseIntB
    dsimp only
    rw [if_pos h1, hU]
    dsimp only
    rw [if_neg (fun h5 => h5.1 h2), if_neg (by rintro ⟨_, h5⟩; have : (2 : Nat) ^ (64 - 1) = 9223372036854775808 := by decide
                                               omega), if_pos h2]
  · unfold Lib.parseIntB
    dsimp only
    rw [if_pos h1]
    by_cases h3 : num l ≤ 18446744073709551615
    · rw [if_pos h3] at hU
      rw [hU]
      dsimp only
      rw [if_neg (fun h5 => h5.1 h2), if_pos ⟨h2, by have : (2 : Nat) ^ (64 - 1) = 9223372036854775808 := by decide
                                                     omega⟩]
    · rw [if_neg h3] at hU
      rw [hU]

/-- What the card lists, as the walks read it. -/
structure DecW (w : World) : Prop where
  err : ∃ t v, w.cell? ⟨0, 0, none⟩ = some (.iface t v)
  range : ∃ t v, w.cell? ⟨6, 0, none⟩ = some (.iface t v)
  pos : w.cell? ⟨2, 0, none⟩ = some (.float .f64 4607182418800017408)
  tab : w.cell? ⟨3, 0, none⟩ = some (.float .f64 4607182418800017408)
theorem DecW.since {w w' : World} (h : DecW w) (k : Since w w') : DecW w' := by
  obtain ⟨⟨t, v, h1⟩, ⟨t', v', h2⟩, h3, h4⟩ := h
  exact ⟨⟨t, v, cell_since k h1⟩, ⟨t', v', cell_since k h2⟩, cell_since k h3, cell_since k h4⟩

def NDPost (i t : Int) (W : World) (e : Ending) (W' : World) : Prop :=
  Since W W' ∧ (((i > 922337203685477 ∨ (i = 922337203685477 ∧ t > 5807) ∨ i < -922337203685477 ∨ (i = -922337203685477 ∧ t < -5808)) ∧ ∃ ty v, e = .returned (.tuple #[.agg #[.int .i64 0], .iface ty v])) ∨
    ((¬ (i > 922337203685477 ∨ (i = 922337203685477 ∧ t > 5807) ∨ i < -922337203685477 ∨ (i = -922337203685477 ∧ t < -5808))) ∧ e = .returned (.tuple #[.agg #[.int .i64 (i * 10000 + t)], .nilIface])))

set_option maxHeartbeats 2000000 in
theorem newDec_any (i t : Int) (ht : -10000 < t ∧ t < 10000) (w : World) (hW : DecW w) : Calls Tryd.prog 18 #[.int .i64 i, .int .i16 t] w (NDPost i t w) := by
  obtain ⟨ty, v, he⟩ := hW.err
  have hlt := World.block_lt_of_cell? _ _ he
  have he2 := cell_since ((Since.refl w).alloc (.cells #[.int .i64 0] 33)) he
  by_cases c1 : i > 922337203685477
  · have HP := Go.Lib.hid (show ∀ w', Since w w' → NDPost i t w (.returned (.tuple #[.agg #[.int .i64 0], .iface ty v])) w' from fun w' h => ⟨h, .inl ⟨.inl c1, ty, v, rfl⟩⟩)
    go_enter Tryd.func18, Tryd.ntmps18
    go_wp2
    go_region
    all_goals go_wp2
    all_goals exact ⟨rfl, _, by simp [results, Tryd.results18, go_sem] <;> rfl, HP.out _ (((Since.refl w).alloc _).drew)⟩
  have c1' : i ≤ 922337203685477 := by omega
  by_cases c2 : i = 922337203685477
  · by_cases c3 : t > 5807
    · skip
      have HP := Go.Lib.hid (show ∀ w', Since w w' → NDPost i t w (.returned (.tuple #[.agg #[.int .i64 0], .iface ty v])) w' from fun w' h => ⟨h, .inl ⟨by omega, ty, v, rfl⟩⟩)
      go_enter Tryd.func18, Tryd.ntmps18
      go_wp2
      go_region
      all_goals go_wp2
      all_goals exact ⟨rfl, _, by simp [results, Tryd.results18, go_sem] <;> rfl, HP.out _ (((Since.refl w).alloc _).drew)⟩
    · have c3' : t ≤ 5807 := by omega
      have c4 : (-922337203685477 : Int) ≤ i := by omega
      have c5 : ¬ i = -922337203685477 := by omega
      have HP := Go.Lib.hid (show ∀ w', Since w w' → NDPost i t w (.returned (.tuple #[.agg #[.int .i64 (i * 10000 + t)], .nilIface])) w' from fun w' h => ⟨h, .inr ⟨by omega, rfl⟩⟩)
      have b1 : -9223372036854775808 ≤ i * 10000 ∧ i * 10000 ≤ 9223372036854775807 := by omega
      have b2 : -9223372036854775808 ≤ i * 10000 + t ∧ i * 10000 + t ≤ 9223372036854775807 := by omega
      have b3 : -9223372036854775808 ≤ t ∧ t ≤ 9223372036854775807 := by omega
      have w1 := IntWalk.i64_in _ b1
      have w2 := IntWalk.i64_in _ b2
      have w3 := IntWalk.i64_in _ b3
      clear b1 b2 b3
      go_enter Tryd.func18, Tryd.ntmps18
      go_wp2
      exact ⟨rfl, _, by simp [results, Tryd.results18, go_sem] <;> rfl, (Since.refl w).alloc _, .inr ⟨by omega, by simp⟩⟩
  by_cases c3 : i < -922337203685477
  · skip
    have HP := Go.Lib.hid (show ∀ w', Since w w' → NDPost i t w (.returned (.tuple #[.agg #[.int .i64 0], .iface ty v])) w' from fun w' h => ⟨h, .inl ⟨by omega, ty, v, rfl⟩⟩)
    go_enter Tryd.func18, Tryd.ntmps18
    go_wp2
    go_region
    all_goals go_wp2
    all_goals exact ⟨rfl, _, by simp [results, Tryd.results18, go_sem] <;> rfl, HP.out _ (((Since.refl w).alloc _).drew)⟩
  have c3' : -922337203685477 ≤ i := by omega
  by_cases c4 : i = -922337203685477
  · by_cases c5 : t < -5808
    · skip
      have HP := Go.Lib.hid (show ∀ w', Since w w' → NDPost i t w (.returned (.tuple #[.agg #[.int .i64 0], .iface ty v])) w' from fun w' h => ⟨h, .inl ⟨by omega, ty, v, rfl⟩⟩)
      go_enter Tryd.func18, Tryd.ntmps18
      go_wp2
      go_region
      all_goals go_wp2
      all_goals exact ⟨rfl, _, by simp [results, Tryd.results18, go_sem] <;> rfl, HP.out _ (((Since.refl w).alloc _).drew)⟩
    · have c5' : -5808 ≤ t := by omega
      have HP := Go.Lib.hid (show ∀ w', Since w w' → NDPost i t w (.returned (.tuple #[.agg #[.int .i64 (i * 10000 + t)], .nilIface])) w' from fun w' h => ⟨h, .inr ⟨by omega, rfl⟩⟩)
      have b1 : -9223372036854775808 ≤ i * 10000 ∧ i * 10000 ≤ 9223372036854775807 := by omega
      have b2 : -9223372036854775808 ≤ i * 10000 + t ∧ i * 10000 + t ≤ 9223372036854775807 := by omega
      have b3 : -9223372036854775808 ≤ t ∧ t ≤ 9223372036854775807 := by omega
      have w1 := IntWalk.i64_in _ b1
      have w2 := IntWalk.i64_in _ b2
      have w3 := IntWalk.i64_in _ b3
      clear b1 b2 b3
      go_enter Tryd.func18, Tryd.ntmps18
      go_wp2
      exact ⟨rfl, _, by simp [results, Tryd.results18, go_sem] <;> rfl, (Since.refl w).alloc _, .inr ⟨by omega, by simp⟩⟩
  have HP := Go.Lib.hid (show ∀ w', Since w w' → NDPost i t w (.returned (.tuple #[.agg #[.int .i64 (i * 10000 + t)], .nilIface])) w' from fun w' h => ⟨h, .inr ⟨by omega, rfl⟩⟩)
  have b1 : -9223372036854775808 ≤ i * 10000 ∧ i * 10000 ≤ 9223372036854775807 := by omega
  have b2 : -9223372036854775808 ≤ i * 10000 + t ∧ i * 10000 + t ≤ 9223372036854775807 := by omega
  have b3 : -9223372036854775808 ≤ t ∧ t ≤ 9223372036854775807 := by omega
  have w1 := IntWalk.i64_in _ b1
  have w2 := IntWalk.i64_in _ b2
  have w3 := IntWalk.i64_in _ b3
  clear b1 b2 b3
  go_enter Tryd.func18, Tryd.ntmps18
  go_wp2
  exact ⟨rfl, _, by simp [results, Tryd.results18, go_sem] <;> rfl, HP.out _ ((Since.refl w).alloc _)⟩

def fone : Value := .float .f64 4607182418800017408
theorem pow10_zero (w : World) (hW : DecW w) : Calls Tryd.prog 17 #[.int .i64 0] w fun e w' => e = .returned (.float .f64 4607182418800017408) ∧ Since w w' := by
  have h2 := hW.pos
  have h3 := hW.tab
  have hm : ∀ w, (binOp .mul 48 (.float .f64 4607182418800017408) (.float .f64 4607182418800017408)).run Tryd.prog w = .ok (.float .f64 4607182418800017408) w := fun w => by kernel_rfl
  go_enter Tryd.func17, Tryd.ntmps17
  go_wp2
  go_region
  all_goals go_wp2
  all_goals exact ⟨rfl, _, by simp [results, Tryd.results17, go_sem] <;> rfl, rfl, (Since.refl w).drew⟩

def bs (l : Bs) : ByteArray := ⟨l.toArray⟩
theorem bs_size (l : Bs) : (bs l).size = l.length := by simp [bs, ByteArray.size]
theorem bs_toList (s : ByteArray) : bs s.data.toList = s := by cases s; simp [bs]
theorem bs_append (a b : Bs) : bs a ++ bs b = bs (a ++ b) := by
  apply ByteArray.ext
  rw [ByteArray.data_append]
  simp [bs]
theorem bs_extract (l : Bs) (i j : Nat) : (bs l).extract i j = bs ((l.drop i).take (j - i)) := by
  apply ByteArray.ext
  show ((bs l).extract i j).data = ((l.drop i).take (j - i)).toArray
  rw [ByteArray.data_extract]
  simp [bs, List.extract_eq_take_drop]
theorem bs_getElem (l : Bs) (k : Nat) (h : k < (bs l).size) : (bs l)[k]'h = l[k]'(by rw [bs_size] at h; exact h) := by
  show (bs l).data[k] = _
  simp [bs]
theorem ix (l : Bs) (z : Int) (k : Nat) (x : UInt8) (hz : z = (k : Int)) (h : l[k]? = some x) (w : World) : (Instr.index 9 (.string (bs l)) (.int .i64 z)).run Tryd.prog w = .ok (.int .u8 x.toNat) w := by
  subst hz
  obtain ⟨hlt, hx⟩ := List.getElem?_eq_some_iff.1 h
  rw [run_index_string w 9 (bs l) .i64 (k : Int) Tryd.underlying9, dif_pos ⟨by omega, by rw [bs_size]; omega⟩]
  have e1 : ((k : Int)).toNat = k := by omega
  simp only [e1, bs_getElem, hx]
theorem slice_from (l : Bs) (z : Int) (k : Nat) (hz : z = (k : Int)) (hk : k ≤ l.length) (w : World) : (Instr.slice 9 (.string (bs l)) (some (.int .i64 z)) none none).run Tryd.prog w = .ok (.string (bs (l.drop k))) w := by
  subst hz
  rw [run_slice_string_l w 9 (bs l) Tryd.underlying9 .i64 (k : Int) (by omega) (by rw [bs_size]; omega)]
  have e1 : ((k : Int)).toNat = k := by omega
  rw [e1, bs_size, bs_extract, List.take_of_length_le (by rw [List.length_drop]; exact Nat.le_refl _)]
theorem slice_mid (l : Bs) (z z' : Int) (k m : Nat) (hz : z = (k : Int)) (hz' : z' = (k : Int) + m) (h : k + m ≤ l.length) (w : World) : (Instr.slice 9 (.string (bs l)) (some (.int .i64 z)) (some (.int .i64 z')) none).run Tryd.prog w = .ok (.string (bs ((l.drop k).take m))) w := by
  subst hz hz'
  rw [run_slice_string w 9 (bs l) .i64 .i64 (k : Int) ((k : Int) + m) Tryd.underlying9 (by omega) (by omega) (by rw [bs_size]; omega)]
  have e1 : ((k : Int)).toNat = k := by omega
  have e2 : ((k : Int) + (m : Int)).toNat = k + m := by omega
  rw [e1, e2, bs_extract, Nat.add_sub_cancel_left]
theorem bs_toList' (l : Bs) : (bs l).toList = l := by rw [ByteArray.toList_eq]; simp [bs]

def IxPost (k : Nat) (W : World) (e : Ending) (W' : World) : Prop := e = .returned (.int .i64 k) ∧ W' = W
set_option maxHeartbeats 1000000 in
/-- The first point of a text. -/
theorem index_any (a b : Bs) (ha : ∀ c ∈ a, c.toNat ≠ 46) (hn : (a ++ 46 :: b).length ≤ 1000) (w : World) : Calls Tryd.prog 14 #[.string (bs (a ++ 46 :: b)), .string ⟨#[46]⟩] w (IxPost a.length w) := by
  have hsz := bs_size (a ++ 46 :: b)
  have hl : (a ++ 46 :: b).length = a.length + 1 + b.length := by simp; omega
  have HM := Go.Lib.hid (fun (k : Nat) (h : k + 1 ≤ (a ++ 46 :: b).length) w => slice_mid (a ++ 46 :: b) (k : Int) ((k : Int) + 1) k 1 rfl rfl h w)
  have HA := Go.Lib.hid ha
  have hat : ∀ k, k < a.length → ∃ c, ((a ++ 46 :: b).drop k).take 1 = [c] ∧ c.toNat ≠ 46 := by
    intro k hk
    refine ⟨a[k], ?_, ha _ (List.getElem_mem hk)⟩
    rw [List.drop_append_of_le_length (by omega), List.drop_eq_getElem_cons hk]
    rfl
  have hat2 : ((a ++ 46 :: b).drop a.length).take 1 = [46] := by simp
  have HAT := Go.Lib.hid hat
  have HAT2 := Go.Lib.hid hat2
  have one : (⟨#[46]⟩ : ByteArray).size = 1 := rfl
  generalize (a ++ 46 :: b) = l at *
  generalize l.length = n at *
  generalize a.length = m at *
  clear ha hat hat2
  go_enter Tryd.func14, Tryd.ntmps14
  go_wp2
  go_loopw [5] (fun iv wr => ∃ k : Nat, k ≤ m ∧ iv = .int .i64 k ∧ wr = w) (fun iv _ => m - (intOf iv).toNat)
  case atStart => exact ⟨0, Nat.zero_le _, rfl, rfl⟩
  case round =>
    obtain ⟨k, hk, rfl, rfl⟩ := hrel
    have hmi := HM.out k (by omega)
    have hkn : (k : Int) + 1 ≤ (n : Int) := by omega
    by_cases hkm : k < m
    · obtain ⟨c, hc, hne⟩ := HAT.out k hkm
      rw [hc] at hmi
      have hq : ((bs [c]).toList == [46]) = false := by
        rw [bs_toList']
        have : c ≠ 46 := fun e => hne (by rw [e]; rfl)
        simp [this]
      generalize bs [c] = q at *
      have hk1 : k + 1 ≤ m := hkm
      clear HAT HAT2 HM HA hc
      go_wp2
      go_roundw
      case rel => exact ⟨k + 1, hk1, by go_num, by trivial⟩
      case measure => simp [intOf]; omega
    · obtain rfl : k = m := by omega
      rw [HAT2.out] at hmi
      have hmi2 : ∀ w, (Instr.slice 9 (.string (bs l)) (some (.int .i64 (k : Int))) (some (.int .i64 ((k : Int) + 1))) none).run Tryd.prog w = .ok (.string ⟨#[46]⟩) w := hmi
      clear HAT HAT2 HM HA hmi
      go_wp2
      exact ⟨rfl, _, by simp [results, Tryd.results14, go_sem] <;> rfl, rfl, rfl⟩

end Go.Proofs.YtlcalmdjgllkcaaDoor.Dec

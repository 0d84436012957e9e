/-
  For all five numbers, choices of units and signs the law FnDurationSums returns true and leaves its arguments as they were: numbers of days, hours, minutes, seconds and milliseconds, one behind the other with their units, are the duration of all together; with a minus sign ahead the opposite one.
  Conditions: none beyond those of the given row and card (the listed variable is tied to the program's text; the repository beside it is a pruned copy).
-/
import Derived.Test.YtgliaglnblhinaaDoorUnit
import Derived.Laws.Shifts
import Derived.Laws.ShiftsVar
import Derived.Laws.BitsAllLaws
import Derived.Laws.ShiftsVarLaws
namespace Go.Proofs.YtgliaglnblhinaaDoor
namespace fnDurationSums
open Go Go.ChangeShapes Go.WideShapes Go.ChangeAt Go.RowKit Go.Maps Go.WideMaps

def many (z0 z1 z2 z3 z4 : Nat) : Nat → Nat | 0 => z0 | 1 => z1 | 2 => z2 | 3 => z3 | _ => z4

/-- What the loop's rounds read, and keep. -/
def Base (W0 : World) (b : Nat) (m : Nat → Nat) (w1 : World) : Prop :=
  (∀ k, k < 5 → w1.cell? ⟨W0.heap.size, k, none⟩ = some (.int .u32 (m k))) ∧ (∀ k, k < 5 → w1.cell? ⟨b, k, none⟩ = some (.string ⟨(nm k).toArray⟩)) ∧
  (∀ k, k < 5 → w1.cell? ⟨b + 1, k, none⟩ = some (.int .i64 (sz k))) ∧ Since W0 w1

theorem Base.step {W0 w w' : World} {b : Nat} {m : Nat → Nat} (h : Base W0 b m w) (k : Below w.heap.size w w') : Base W0 b m w' := by
  obtain ⟨h1, h2, h3, h4⟩ := h
  refine ⟨fun j hj => ?_, fun j hj => ?_, fun j hj => ?_, h4.step k⟩
  · exact (k.cell (p := ⟨W0.heap.size, j, none⟩) (World.block_lt_of_cell? _ _ (h1 j hj))).trans (h1 j hj)
  · exact (k.cell (p := ⟨b, j, none⟩) (World.block_lt_of_cell? _ _ (h2 j hj))).trans (h2 j hj)
  · exact (k.cell (p := ⟨b + 1, j, none⟩) (World.block_lt_of_cell? _ _ (h3 j hj))).trans (h3 j hj)

theorem many_lt (z0 z1 z2 z3 z4 : Nat) (h0 : z0 < 4294967296) (h1 : z1 < 4294967296) (h2 : z2 < 4294967296) (h3 : z3 < 4294967296) (h4 : z4 < 4294967296) (k : Nat) : many z0 z1 z2 z3 z4 k < 4294967296 := by
  unfold many; split <;> assumption

theorem cat2_ok {s d n : ByteArray} {k : Nat} (hs : s.size ≤ 102 * k) (hd : d.size ≤ 100) (hn : n.size ≤ 2) (hk : k ≤ 5 := by omega) : s.size + (d ++ n).size ≤ 9223372036854775807 := by
  rw [append_size]; omega

theorem toList_eq (s : ByteArray) : s.toList = s.data.toList := ByteArray.toList_eq s

theorem keepB {W0 w w' : World} {b i j l B1 B2 B3 : Nat} {m : Nat → Nat} {v1 v2 v3 : Value} (h : Below w.heap.size w w') (h1 : w.cell? ⟨B1, i, none⟩ = some v1) (h2 : w.cell? ⟨B2, j, none⟩ = some v2) (h3 : w.cell? ⟨B3, l, none⟩ = some v3) (hB : Base W0 b m w) :
    w'.cell? ⟨B1, i, none⟩ = some v1 ∧ w'.cell? ⟨B2, j, none⟩ = some v2 ∧ w'.cell? ⟨B3, l, none⟩ = some v3 ∧ Base W0 b m w' :=
  ⟨(h.cell (p := ⟨B1, i, none⟩) (World.block_lt_of_cell? _ _ h1)).trans h1, (h.cell (p := ⟨B2, j, none⟩) (World.block_lt_of_cell? _ _ h2)).trans h2, (h.cell (p := ⟨B3, l, none⟩) (World.block_lt_of_cell? _ _ h3)).trans h3, hB.step h⟩

def signed (neg : Bool) (s : ByteArray) : ByteArray := match neg with | true => ⟨#[45]⟩ ++ s | false => s
def signedI (neg : Bool) (n : Int) : Int := match neg with | true => -n | false => n

theorem text_front {ps : List (Nat × List UInt8)} {c : Nat} (h : Chain 0 c ps) (hn : ps ≠ []) : ∃ l r, text ps = l ++ r ∧ l ≠ [] ∧ Digs l ∧ 1 < (text ps).length := by
  cases ps with
  | nil => exact absurd rfl hn
  | cons x r =>
    obtain ⟨k, d⟩ := x
    obtain ⟨_, h2, h3, h4, _, _⟩ := h
    refine ⟨d, nm k ++ text r, rfl, h4, h3, ?_⟩
    have hk' : k = 0 ∨ k = 1 ∨ k = 2 ∨ k = 3 ∨ k = 4 := by omega
    have h5 : 0 < d.length := List.length_pos_iff.2 h4
    simp only [text, List.length_append]
    rcases hk' with rfl | rfl | rfl | rfl | rfl <;> simp [nm] <;> omega

theorem parts_read (neg : Bool) (s : ByteArray) (ps : List (Nat × List UInt8)) (hch : Chain 0 5 ps) (htx : s.data.toList = text ps) (hsz : s.size ≤ 102 * 5) (hne : ps ≠ []) (w : World) :
    Calls Tryd.prog 13 #[.string (signed neg s)] w fun e w' => e = .returned (.tuple #[.int .i64 (signedI neg (total ps)), .bool true]) ∧ Since w w' := by
  have hb := total_bound hch
  have hg := good_parts ps 0 0 hch (by omega)
  rw [Nat.zero_add] at hg
  obtain ⟨l, r, e1, e2, e3, e4⟩ := text_front hch hne
  have hl : s.data.toList.length = s.size := by simp
  rw [htx] at hl
  cases neg
  · exact read_pos s (total ps) l r (htx.trans e1) e2 e3 (by omega) (by omega) (by omega) (by rw [← e1]; exact hg) w
  · exact read_neg s _ (total ps) rfl (by omega) (by omega) (by omega) (by rw [htx]; exact hg) w

theorem base_start (z0 z1 z2 z3 z4 : Nat) (w : World) {w1 : World} (h : Since (w.alloc (.cells #[.int .u32 z0, .int .u32 z1, .int .u32 z2, .int .u32 z3, .int .u32 z4] 28)) w1) :
    Base w w1.heap.size (many z0 z1 z2 z3 z4) ((w1.alloc (.cells #[.string ⟨#[100]⟩, .string ⟨#[104]⟩, .string ⟨#[109]⟩, .string ⟨#[115]⟩, .string ⟨#[109, 115]⟩] 29)).alloc (.cells #[.int .i64 86400000, .int .i64 3600000, .int .i64 60000, .int .i64 1000, .int .i64 1] 30)) := by
  have h0 : Since w (w.alloc (.cells #[.int .u32 z0, .int .u32 z1, .int .u32 z2, .int .u32 z3, .int .u32 z4] 28)) := (Below.refl _ _).alloc (Nat.le_refl _) _
  have h1 := h0.step h
  obtain ⟨a, b, c⟩ := two_arrays h1
  refine ⟨fun k hk => ?_, a, b, c⟩
  have hl : w.heap.size < w1.heap.size := by have := h.size; simp at this; omega
  rw [World.cell?_alloc_past (hn := by simp; omega), World.cell?_alloc_past (hn := hl), h.cell (p := ⟨w.heap.size, k, none⟩) (by simp), World.cell?_alloc_at _ _ _ _ rfl]
  have hk' : k = 0 ∨ k = 1 ∨ k = 2 ∨ k = 3 ∨ k = 4 := by omega
  rcases hk' with rfl | rfl | rfl | rfl | rfl <;> rfl

set_option maxRecDepth 100000 in
set_option maxHeartbeats 1000000 in
theorem walkS (z0 z1 z2 z3 z4 u : Nat) (neg : Bool) (h0 : z0 < 4294967296) (h1 : z1 < 4294967296) (h2 : z2 < 4294967296) (h3 : z3 < 4294967296) (h4 : z4 < 4294967296) (hu : u < 256) (w : World) :
    Calls Tryd.prog 4 #[.agg #[.int .u32 z0, .int .u32 z1, .int .u32 z2, .int .u32 z3, .int .u32 z4], .int .u8 u, .bool neg] w fun e w' => e = .returned (.bool true) ∧ Since w w' := by
  go_enter Tryd.func4, Tryd.ntmps4
  go_wp2_with (first | (go_at_call 11; refine (units_any _).mono ?_; rintro e w1 ⟨rfl, hs1⟩))
  have hB := base_start z0 z1 z2 z3 z4 w hs1
  generalize (w1.alloc (.cells #[.string ⟨#[100]⟩, .string ⟨#[104]⟩, .string ⟨#[109]⟩, .string ⟨#[115]⟩, .string ⟨#[109, 115]⟩] 29)).alloc (.cells #[.int .i64 86400000, .int .i64 3600000, .int .i64 60000, .int .i64 1000, .int .i64 1] 30) = W at *
  go_loopw [9, 10, 11] (fun sv tv kv wr => ∃ (k : Nat) (s : ByteArray) (ps : List (Nat × List UInt8)), sv = .string s ∧ tv = .int .i64 (total ps) ∧ kv = .int .i64 k ∧ k ≤ 5 ∧ Chain 0 k ps ∧ s.data.toList = text ps ∧ s.size ≤ 102 * k ∧ (k = 5 → ps ≠ []) ∧ Base w w1.heap.size (many z0 z1 z2 z3 z4) wr)
    (fun _ _ kv _ => 5 - (intOf kv).toNat)
  case atStart => exact ⟨0, ByteArray.empty, [], rfl, rfl, rfl, by omega, Nat.le_refl _, rfl, Nat.le_refl _, by omega, hB⟩
  case round =>
    clear hB hs1
    obtain ⟨k, s, ps, rfl, rfl, rfl, hk, hch, htx, hsz, hne, hB⟩ := hrel
    have hbit : bits BinOp.and IntKind.u8 ((u : Int) / 2 ^ k) 1 = 0 ∨ ¬ bits BinOp.and IntKind.u8 ((u : Int) / 2 ^ k) 1 = 0 := Classical.em _
    by_cases hk5 : k < 4
    · have hk5' : (k : Int) < 5 := by omega
      have hk4 : ((k : Int) == 4) = false := by simp; omega
      rcases hbit with hbit | hbit
      · have hb1 : (bits BinOp.and IntKind.u8 ((u : Int) / 2 ^ k) 1 == 0) = true := by simpa using hbit
        clear hbit
        have hS1 := hB.1 k (by omega)
        have hS2 := hB.2.1 k (by omega)
        have hS3 := hB.2.2.1 k (by omega)
        have hm := many_lt z0 z1 z2 z3 z4 h0 h1 h2 h3 h4 k
        have hz := sz_le k (by omega)
        have htb := total_bound hch
        generalize hzk : sz k = zk at *
        generalize hmk : many z0 z1 z2 z3 z4 k = mk at *
        generalize hnk : ByteArray.mk (nm k).toArray = nk at *
        have hns : nk.size ≤ 2 := by rw [← hnk]; exact (nm_size k (by omega)).2
        have e1 : IntKind.u64.wrap (mk : Int) = mk := IntWalk.u64_in _ (by omega)
        have e2 : IntKind.i64.wrap (mk : Int) = mk := IntWalk.i64_in _ (by omega)
        have hmul : mk * zk ≤ 4294967296 * 86400000 := Nat.mul_le_mul (by omega) hz
        have hmi : (mk : Int) * (zk : Int) = ((mk * zk : Nat) : Int) := by simp
        have e3 : IntKind.i64.wrap ((mk : Int) * (zk : Int)) = (mk : Int) * (zk : Int) := IntWalk.i64_in _ (by rw [hmi]; omega)
        have e4 : IntKind.i64.wrap ((total ps : Int) + (mk : Int) * (zk : Int)) = (total ps : Int) + (mk : Int) * (zk : Int) := IntWalk.i64_in _ (by rw [hmi]; omega)
        have HZ := Go.Lib.hid hzk; have HM := Go.Lib.hid hmk; have HN := Go.Lib.hid hnk; have E1 := Go.Lib.hid e1; have E2 := Go.Lib.hid e2; have E3 := Go.Lib.hid e3; have E4 := Go.Lib.hid e4; have HI := Go.Lib.hid hmi; have HT := Go.Lib.hid htx
        clear hzk hmk hnk e1 e2 e3 e4 hmi htx hmul
        go_wp2
        have e1 := E1.out; have e2 := E2.out; have e3 := E3.out; have e4 := E4.out
        go_region_held3 (fun w' => w'.cell? ⟨w.heap.size, k, none⟩ = some (.int .u32 mk) ∧ w'.cell? ⟨w1.heap.size, k, none⟩ = some (.string nk) ∧ w'.cell? ⟨w1.heap.size + 1, k, none⟩ = some (.int .i64 zk) ∧ Base w w1.heap.size (many z0 z1 z2 z3 z4) w')
          (first | exact keepB ((Below.refl _ wr).drew) hS1 hS2 hS3 hB | (go_split_ands; exact keepB (by assumption) (by assumption) (by assumption) (by assumption) (by assumption)))
          (first | (go_at_call 12; refine (digits_int _ _ (by omega) (by omega) (by omega) (by omega) _).mono ?_; rintro e w' ⟨d, rfl, hd, hdn, hd1, hd2, hdb⟩; have hadd := fun wx => run_string_add_sum (P := Tryd.prog) wx d nk (cat_ok hd2 hns); have hadd2 := fun wx => run_string_add_sum (P := Tryd.prog) wx s (d ++ nk) (cat2_ok hsz hd2 hns)))
        go_split_ands
        have hc1 : w'.cell? ⟨w.heap.size, k, none⟩ = some (.int .u32 mk) := by assumption
        have hc2 : w'.cell? ⟨w1.heap.size, k, none⟩ = some (.string nk) := by assumption
        have hc3 : w'.cell? ⟨w1.heap.size + 1, k, none⟩ = some (.int .i64 zk) := by assumption
        have hc4 : Base w w1.heap.size (many z0 z1 z2 z3 z4) w' := by assumption
        clear hS1 hS2 hS3 hB hadd hadd2 hdb
        go_wp2
        go_region_held3 (fun w' => w'.cell? ⟨w.heap.size, k, none⟩ = some (.int .u32 mk) ∧ w'.cell? ⟨w1.heap.size, k, none⟩ = some (.string nk) ∧ w'.cell? ⟨w1.heap.size + 1, k, none⟩ = some (.int .i64 zk) ∧ Base w w1.heap.size (many z0 z1 z2 z3 z4) w')
          (first | exact keepB ((Below.refl _ w').drew) hc1 hc2 hc3 hc4 | (go_split_ands; exact keepB (by assumption) (by assumption) (by assumption) (by assumption) (by assumption)))
          (first | (go_at_call 12; skip))
        go_split_ands
        have hc5 : Base w w1.heap.size (many z0 z1 z2 z3 z4) w'.drew := by assumption
        clear e1 e2 e3 e4 hc1 hc2 hc3 hc4
        go_wp2
        go_roundw
        case rel =>
          have hdk : num d.data.toList = many z0 z1 z2 z3 z4 k := by rw [hdn, HM.out]; omega
          refine ⟨k + 1, _, ps ++ [(k, d.data.toList)], rfl, num_eq ?_, by go_num, by omega, chain_snoc ps hch (Nat.le_refl _) (by omega) hd (ne_nil hd1) (by omega), ?_, ?_, fun _ => by simp, hc5⟩
          · rw [total_snoc, hdk, HM.out, HZ.out, HI.out]; omega
          · rw [append_data, append_data, HT.out, text_snoc, ← HN.out]
          · rw [append_size, append_size]; omega
        case measure => simp [intOf]; omega
      · have hb1 : (bits BinOp.and IntKind.u8 ((u : Int) / 2 ^ k) 1 == 0) = false := by simpa using hbit
        clear hbit
        go_wp2
        go_roundw
        case rel => exact ⟨k + 1, s, ps, rfl, rfl, by go_num, by omega, chain_mono ps hch (by omega), htx, by omega, fun h => absurd h (by omega), hB⟩
        case measure => simp [intOf]; omega
    · by_cases hk4 : k = 4
      · subst hk4
        clear hk5
        rw [show ((2 : Int) ^ 4) = 16 from rfl] at hbit
        rcases hbit with hbit | hbit
        · have hb1 : (bits BinOp.and IntKind.u8 ((u : Int) / 16) 1 == 0) = true := by simpa using hbit
          clear hbit
          have hS1 := hB.1 4 (by omega)
          have hS2 := hB.2.1 4 (by omega)
          have hS3 := hB.2.2.1 4 (by omega)
          have hm := many_lt z0 z1 z2 z3 z4 h0 h1 h2 h3 h4 4
          have hz := sz_le 4 (by omega)
          have htb := total_bound hch
          generalize hzk : sz 4 = zk at *
          generalize hmk : many z0 z1 z2 z3 z4 4 = mk at *
          generalize hnk : ByteArray.mk (nm 4).toArray = nk at *
          have hns : nk.size ≤ 2 := by rw [← hnk]; exact (nm_size 4 (by omega)).2
          have e1 : IntKind.u64.wrap (mk : Int) = mk := IntWalk.u64_in _ (by omega)
          have e2 : IntKind.i64.wrap (mk : Int) = mk := IntWalk.i64_in _ (by omega)
          have hmul : mk * zk ≤ 4294967296 * 86400000 := Nat.mul_le_mul (by omega) hz
          have hmi : (mk : Int) * (zk : Int) = ((mk * zk : Nat) : Int) := by simp
          have e3 : IntKind.i64.wrap ((mk : Int) * (zk : Int)) = (mk : Int) * (zk : Int) := IntWalk.i64_in _ (by rw [hmi]; omega)
          have e4 : IntKind.i64.wrap ((total ps : Int) + (mk : Int) * (zk : Int)) = (total ps : Int) + (mk : Int) * (zk : Int) := IntWalk.i64_in _ (by rw [hmi]; omega)
          have HZ := Go.Lib.hid hzk; have HM := Go.Lib.hid hmk; have HN := Go.Lib.hid hnk; have E1 := Go.Lib.hid e1; have E2 := Go.Lib.hid e2; have E3 := Go.Lib.hid e3; have E4 := Go.Lib.hid e4; have HI := Go.Lib.hid hmi; have HT := Go.Lib.hid htx
          clear hzk hmk hnk e1 e2 e3 e4 hmi htx hmul
          go_wp2
          have e1 := E1.out; have e2 := E2.out; have e3 := E3.out; have e4 := E4.out
          go_region_held3 (fun w' => w'.cell? ⟨w.heap.size, 4, none⟩ = some (.int .u32 mk) ∧ w'.cell? ⟨w1.heap.size, 4, none⟩ = some (.string nk) ∧ w'.cell? ⟨w1.heap.size + 1, 4, none⟩ = some (.int .i64 zk) ∧ Base w w1.heap.size (many z0 z1 z2 z3 z4) w')
            (first | exact keepB ((Below.refl _ wr).drew) hS1 hS2 hS3 hB | (go_split_ands; exact keepB (by assumption) (by assumption) (by assumption) (by assumption) (by assumption)))
            (first | (go_at_call 12; refine (digits_int _ _ (by omega) (by omega) (by omega) (by omega) _).mono ?_; rintro e w' ⟨d, rfl, hd, hdn, hd1, hd2, hdb⟩; have hadd := fun wx => run_string_add_sum (P := Tryd.prog) wx d nk (cat_ok hd2 hns); have hadd2 := fun wx => run_string_add_sum (P := Tryd.prog) wx s (d ++ nk) (cat2_ok hsz hd2 hns)))
          go_split_ands
          have hc1 : w'.cell? ⟨w.heap.size, 4, none⟩ = some (.int .u32 mk) := by assumption
          have hc2 : w'.cell? ⟨w1.heap.size, 4, none⟩ = some (.string nk) := by assumption
          have hc3 : w'.cell? ⟨w1.heap.size + 1, 4, none⟩ = some (.int .i64 zk) := by assumption
          have hc4 : Base w w1.heap.size (many z0 z1 z2 z3 z4) w' := by assumption
          clear hS1 hS2 hS3 hB hadd hadd2 hdb
          go_wp2
          go_region_held3 (fun w' => w'.cell? ⟨w.heap.size, 4, none⟩ = some (.int .u32 mk) ∧ w'.cell? ⟨w1.heap.size, 4, none⟩ = some (.string nk) ∧ w'.cell? ⟨w1.heap.size + 1, 4, none⟩ = some (.int .i64 zk) ∧ Base w w1.heap.size (many z0 z1 z2 z3 z4) w')
            (first | exact keepB ((Below.refl _ w').drew) hc1 hc2 hc3 hc4 | (go_split_ands; exact keepB (by assumption) (by assumption) (by assumption) (by assumption) (by assumption)))
            (first | (go_at_call 12; skip))
          go_split_ands
          have hc5 : Base w w1.heap.size (many z0 z1 z2 z3 z4) w'.drew := by assumption
          clear e1 e2 e3 e4 hc1 hc2 hc3 hc4
          go_wp2
          go_roundw
          case rel =>
            have hdk : num d.data.toList = many z0 z1 z2 z3 z4 4 := by rw [hdn, HM.out]; omega
            refine ⟨4 + 1, _, ps ++ [(4, d.data.toList)], rfl, num_eq ?_, by go_num, by omega, chain_snoc ps hch (Nat.le_refl _) (by omega) hd (ne_nil hd1) (by omega), ?_, ?_, fun _ => by simp, hc5⟩
            · rw [total_snoc, hdk, HM.out, HZ.out, HI.out]; omega
            · rw [append_data, append_data, HT.out, text_snoc, ← HN.out]
            · rw [append_size, append_size]; omega
          case measure => simp [intOf]
        · have hb1 : (bits BinOp.and IntKind.u8 ((u : Int) / 16) 1 == 0) = false := by simpa using hbit
          clear hbit
          by_cases hem : s.data.toList = []
          · have hem1 : s.toList.isEmpty = true := by rw [toList_eq]; simp [hem]
            clear hem
            have hS1 := hB.1 4 (by omega)
            have hS2 := hB.2.1 4 (by omega)
            have hS3 := hB.2.2.1 4 (by omega)
            have hm := many_lt z0 z1 z2 z3 z4 h0 h1 h2 h3 h4 4
            have hz := sz_le 4 (by omega)
            have htb := total_bound hch
            generalize hzk : sz 4 = zk at *
            generalize hmk : many z0 z1 z2 z3 z4 4 = mk at *
            generalize hnk : ByteArray.mk (nm 4).toArray = nk at *
            have hns : nk.size ≤ 2 := by rw [← hnk]; exact (nm_size 4 (by omega)).2
            have e1 : IntKind.u64.wrap (mk : Int) = mk := IntWalk.u64_in _ (by omega)
            have e2 : IntKind.i64.wrap (mk : Int) = mk := IntWalk.i64_in _ (by omega)
            have hmul : mk * zk ≤ 4294967296 * 86400000 := Nat.mul_le_mul (by omega) hz
            have hmi : (mk : Int) * (zk : Int) = ((mk * zk : Nat) : Int) := by simp
            have e3 : IntKind.i64.wrap ((mk : Int) * (zk : Int)) = (mk : Int) * (zk : Int) := IntWalk.i64_in _ (by rw [hmi]; omega)
            have e4 : IntKind.i64.wrap ((total ps : Int) + (mk : Int) * (zk : Int)) = (total ps : Int) + (mk : Int) * (zk : Int) := IntWalk.i64_in _ (by rw [hmi]; omega)
            have HZ := Go.Lib.hid hzk; have HM := Go.Lib.hid hmk; have HN := Go.Lib.hid hnk; have E1 := Go.Lib.hid e1; have E2 := Go.Lib.hid e2; have E3 := Go.Lib.hid e3; have E4 := Go.Lib.hid e4; have HI := Go.Lib.hid hmi; have HT := Go.Lib.hid htx
            clear hzk hmk hnk e1 e2 e3 e4 hmi htx hmul
            go_wp2
            have e1 := E1.out; have e2 := E2.out; have e3 := E3.out; have e4 := E4.out
            go_region_held3 (fun w' => w'.cell? ⟨w.heap.size, 4, none⟩ = some (.int .u32 mk) ∧ w'.cell? ⟨w1.heap.size, 4, none⟩ = some (.string nk) ∧ w'.cell? ⟨w1.heap.size + 1, 4, none⟩ = some (.int .i64 zk) ∧ Base w w1.heap.size (many z0 z1 z2 z3 z4) w')
              (first | exact keepB ((Below.refl _ wr).drew) hS1 hS2 hS3 hB | (go_split_ands; exact keepB (by assumption) (by assumption) (by assumption) (by assumption) (by assumption)))
              (first | (go_at_call 12; refine (digits_int _ _ (by omega) (by omega) (by omega) (by omega) _).mono ?_; rintro e w' ⟨d, rfl, hd, hdn, hd1, hd2, hdb⟩; have hadd := fun wx => run_string_add_sum (P := Tryd.prog) wx d nk (cat_ok hd2 hns); have hadd2 := fun wx => run_string_add_sum (P := Tryd.prog) wx s (d ++ nk) (cat2_ok hsz hd2 hns)))
            go_split_ands
            have hc1 : w'.cell? ⟨w.heap.size, 4, none⟩ = some (.int .u32 mk) := by assumption
            have hc2 : w'.cell? ⟨w1.heap.size, 4, none⟩ = some (.string nk) := by assumption
            have hc3 : w'.cell? ⟨w1.heap.size + 1, 4, none⟩ = some (.int .i64 zk) := by assumption
            have hc4 : Base w w1.heap.size (many z0 z1 z2 z3 z4) w' := by assumption
            clear hS1 hS2 hS3 hB hadd hadd2 hdb
            go_wp2
            go_region_held3 (fun w' => w'.cell? ⟨w.heap.size, 4, none⟩ = some (.int .u32 mk) ∧ w'.cell? ⟨w1.heap.size, 4, none⟩ = some (.string nk) ∧ w'.cell? ⟨w1.heap.size + 1, 4, none⟩ = some (.int .i64 zk) ∧ Base w w1.heap.size (many z0 z1 z2 z3 z4) w')
              (first | exact keepB ((Below.refl _ w').drew) hc1 hc2 hc3 hc4 | (go_split_ands; exact keepB (by assumption) (by assumption) (by assumption) (by assumption) (by assumption)))
              (first | (go_at_call 12; skip))
            go_split_ands
            have hc5 : Base w w1.heap.size (many z0 z1 z2 z3 z4) w'.drew := by assumption
            clear e1 e2 e3 e4 hc1 hc2 hc3 hc4
            go_wp2
            go_roundw
            case rel =>
              have hdk : num d.data.toList = many z0 z1 z2 z3 z4 4 := by rw [hdn, HM.out]; omega
              refine ⟨4 + 1, _, ps ++ [(4, d.data.toList)], rfl, num_eq ?_, by go_num, by omega, chain_snoc ps hch (Nat.le_refl _) (by omega) hd (ne_nil hd1) (by omega), ?_, ?_, fun _ => by simp, hc5⟩
              · rw [total_snoc, hdk, HM.out, HZ.out, HI.out]; omega
              · rw [append_data, append_data, HT.out, text_snoc, ← HN.out]
              · rw [append_size, append_size]; omega
            case measure => simp [intOf]
          · have hem1 : s.toList.isEmpty = false := by rw [toList_eq]; simpa using hem
            have hps : ps ≠ [] := by
              intro e; subst e; exact hem htx
            clear hem
            go_wp2
            go_roundw
            case rel => exact ⟨5, s, ps, rfl, rfl, rfl, by omega, chain_mono ps hch (by omega), htx, by omega, fun _ => hps, hB⟩
            case measure => simp [intOf]
      · have hk6 : k = 5 := by omega
        subst hk6
        clear hk5 hk4 hbit
        have hb := total_bound hch
        have R := parts_read neg s ps hch htx hsz (hne rfl)
        have hlen : (ByteArray.mk #[45]).size + s.size ≤ 9223372036854775807 := by have : (ByteArray.mk #[45]).size = 1 := rfl; omega
        have hcat := fun wx => run_string_add_sum (P := Tryd.prog) wx ⟨#[45]⟩ s hlen
        have hs4 := hB.2.2.2
        clear hch htx hne hB hlen
        cases neg
        all_goals
          dsimp only [signed, signedI] at R
          have HR := Go.Lib.hid R
          clear R
          go_wp2_with (go_at_call 13; refine (HR.out _).mono ?_; rintro e w5 ⟨rfl, hs5⟩)
          go_ret
          exact ⟨rfl, hs4.trans (hs5.mono hs4.size)⟩

section
variable {H : Type} {enc : TypeId × Value → H} {W : World} {base : Nat} {sp : Nat → Bool} {held : Bool}
theorem open_arr5 {cs : Array Value} {d : DataW H} {p : List MemPlace} (h : DataW.Trod enc Tryd.prog W base sp held 28 (.agg cs) d p) (hsz : cs.size = 5) :
    ∃ z0 z1 z2 z3 z4 : Nat, cs = #[.int .u32 z0, .int .u32 z1, .int .u32 z2, .int .u32 z3, .int .u32 z4] ∧ z0 < 4294967296 ∧ z1 < 4294967296 ∧ z2 < 4294967296 ∧ z3 < 4294967296 ∧ z4 < 4294967296 := by
  obtain ⟨fuel, hf⟩ := h
  obtain ⟨xs, m, _, _, _, hn, hel⟩ := DataW.trod_array Tryd.underlying28 hf
  have c27 : Tryd.prog.cellsOf 27 = 1 := by kernel_rfl
  obtain ⟨l⟩ := cs
  match l, hsz, xs, hn with
  | [c0, c1, c2, c3, c4], _, [x0, x1, x2, x3, x4], _ =>
    have one : ∀ (i : Nat) (c : Value) (x : DataW H × List MemPlace), i < 5 → ([c0, c1, c2, c3, c4].drop i).take 1 = [c] → [x0, x1, x2, x3, x4][i]? = some x → ∃ z : Nat, c = .int .u32 z ∧ z < 4294967296 := by
      intro i c x hi hc hx
      have e := hel i hi
      rw [c27, Nat.mul_one] at e
      rw [hx, show (Value.agg ⟨[c0, c1, c2, c3, c4]⟩).cells.toList = [c0, c1, c2, c3, c4] from rfl, hc] at e
      obtain ⟨a, e1, _, e3⟩ := DataW.trod_int Tryd.underlying27 e
      have hb := bounds_u32 e3
      obtain ⟨z, rfl⟩ := Int.eq_ofNat_of_zero_le hb.1
      exact ⟨z, by simpa using e1, by omega⟩
    obtain ⟨z0, rfl, b0⟩ := one 0 c0 x0 (by omega) rfl rfl
    obtain ⟨z1, rfl, b1⟩ := one 1 c1 x1 (by omega) rfl rfl
    obtain ⟨z2, rfl, b2⟩ := one 2 c2 x2 (by omega) rfl rfl
    obtain ⟨z3, rfl, b3⟩ := one 3 c3 x3 (by omega) rfl rfl
    obtain ⟨z4, rfl, b4⟩ := one 4 c4 x4 (by omega) rfl rfl
    exact ⟨z0, z1, z2, z3, z4, rfl, b0, b1, b2, b3, b4⟩
end

theorem walk (z0 z1 z2 z3 z4 : Nat) (a1 : Int) (a2 : Bool) (h0 : z0 < 4294967296) (h1 : z1 < 4294967296) (h2 : z2 < 4294967296) (h3 : z3 < 4294967296) (h4 : z4 < 4294967296) (w1 : (Lit.int .u8 a1).wf = true) (w : World) :
    Calls Tryd.prog 4 #[.agg #[.int .u32 z0, .int .u32 z1, .int .u32 z2, .int .u32 z3, .int .u32 z4], .int .u8 a1, .bool a2] w fun e w' => e = .returned (.bool true) ∧ Below w.heap.size w w' := by
  have b1 := bounds_u8 w1
  obtain ⟨u, rfl⟩ := Int.eq_ofNat_of_zero_le b1.1
  exact walkS z0 z1 z2 z3 z4 u a2 h0 h1 h2 h3 h4 (by omega) w


theorem own : ownKnob Tryd.prog.godebug = none := by kernel_rfl
theorem laidOut : laidOutB Tryd.prog = true := by kernel_rfl

theorem door_met (os : Os) (args : Array Value) : laidMetH Tryd.prog Rows.fnDurationSumsRow.laid ((World.doorLaid Tryd.prog 400 os).forCall (fun _ _ => 0) ⟨#[], args, []⟩).memory :=
  laidMetH_of_parts3 (fuel := 8) (laidMet_of_run' 8 (by kernel_rfl) (by kernel_rfl)) (by kernel_rfl) (by kernel_rfl)

set_option maxRecDepth 100000 in
theorem lifted (os : Os) (started : os.Started) (H : Type) (enc : TypeId × Value → H) :
    ReturnsInHanded {} Tryd.checked os 4 .any (fun w args => (Rows.fnDurationSumsSpec.pre enc Tryd.prog Tryd.f4 [] false w args ∧ laidMetH Tryd.prog Rows.fnDurationSumsRow.laid w) ∧ sizedMet enc Tryd.prog Tryd.f4 (OpenSpec.ofChange Rows.fnDurationSumsSpec) false w args)
      (Rows.fnDurationSumsSpec.post enc Tryd.prog Tryd.f4 false true false false) := by
  refine returnsInHanded_of_change_and (C := Tryd.checked) (X := fun w _ => laidMetH Tryd.prog Rows.fnDurationSumsRow.laid w) (fun _ _ _ hh h => h.of_heap hh) own started (by kernel_rfl) Tryd.func4
    (ChangeSpec.witness_shaped (enc := enc) (C := Tryd.checked) (os := os) (X := fun w _ => laidMetH Tryd.prog Rows.fnDurationSumsRow.laid w) false (World.doorLaid Tryd.prog 400 os) #[.agg #[.int .u32 0, .int .u32 0, .int .u32 0, .int .u32 0, .int .u32 0], .int .u8 0, .bool false] 8 rfl (World.shaped_of_RefB (by kernel_rfl) (by kernel_rfl)) (by kernel_rfl) (by kernel_rfl) (by kernel_rfl) (door_met os _)) ?_
  intro W base args ds gs before hval0 hW _ _ hL hsized
  have hval : ∀ (j : Nat) t v, Tryd.f4.params[j]? = some t → args[j]? = some v → Value.okWide Tryd.prog W .any base t v := hval0
  have hW' := hW
  obtain ⟨p, q, hA0, hV, rfl, hfz, hnd⟩ := hW
  have hA : DataW.TrodAll enc Tryd.prog W 0 (fun _ => true) true Tryd.f4.params.toList args.toList ds p := hA0
  rw [Tryd.params4] at hA hval
  obtain ⟨v0, vs0, d0, ds0, p0, q0, hargs, rfl, rfl, h0, r0⟩ := trodAll_cons hA
  obtain ⟨v1, vs1, d1, ds1, p1, q1, rfl, rfl, rfl, h1, r1⟩ := trodAll_cons r0
  obtain ⟨v2, vs2, d2, ds2, p2, q2, rfl, rfl, rfl, h2, r2⟩ := trodAll_cons r1
  obtain ⟨rfl, rfl, rfl⟩ := trodAll_nil r2
  obtain rfl : args = #[v0, v1, v2] := by cases args; simp_all
  obtain ⟨rfl, rfl⟩ := trodVars_none hV
  obtain ⟨cs, rfl, hsz0⟩ : ∃ cs, v0 = .agg cs ∧ cs.size = 5 := by
    have hq := hval 0 28 v0 rfl rfl
    have c28 : Tryd.prog.cellsOf 28 = 5 := by kernel_rfl
    simp only [Value.okWide, Tryd.underlying28] at hq
    obtain ⟨cs, e1, e2, _⟩ := hq
    exact ⟨cs, e1, e2.trans c28⟩
  have k0' := h0
  obtain ⟨z0, z1, z2, z3, z4, rfl, g0, g1, g2, g3, g4⟩ := open_arr5 k0' hsz0
  have k0 := h0
  have lt0 : ∀ x ∈ p0, x.block < W.heap.size := by obtain ⟨m, hm⟩ := k0; exact DataW.trod_lt m _ _ _ hm
  obtain ⟨a1, rfl, rfl, rfl, w1⟩ := open_int Tryd.underlying5 (hval 1 5 v1 rfl rfl) h1
  obtain ⟨a2, rfl, rfl, rfl⟩ := open_bool Tryd.underlying4 (hval 2 4 v2 rfl rfl) h2
  clear hA0 hval0
  try simp only [List.append_nil] at hW'
  refine (walk z0 z1 z2 z3 z4 a1 a2 g0 g1 g2 g3 g4 w1 W).mono fun e W' ⟨he, bel⟩ => ?_
  subst he
  exact ⟨_, rfl, _, _, _, [], _, [], hW', trodAll_mk1 (shut_bool Tryd.underlying4 _), (trodAll_cons_mk (Below.trod laidOut (by kernel_rfl) (of_decide_eq_true (by kernel_rfl)) k0 bel lt0) (trodAll_cons_mk (shut_int Tryd.underlying5 w1) (trodAll_cons_mk (shut_bool Tryd.underlying4 _) trodAll_mk0))), rfl, bel.frame _, fun h => by cases h⟩

theorem over : Rows.fnDurationSumsRow.holds Tryd.pinned (OpenSpec.ofChange Rows.fnDurationSumsSpec) :=
  OpenClaim.holds_of_wide 4 Tryd.f4 rfl rfl rfl rfl rfl rfl rfl ⟨rfl, rfl, rfl, rfl, rfl⟩ rfl rfl rfl rfl rfl (by kernel_rfl) Tryd.func4 (by kernel_rfl)
    (of_decide_eq_true (by kernel_rfl)) (by unfold Func.isWrapper; first | (rw [if_pos (by decide +kernel)]; kernel_rfl) | (rw [if_neg (by decide +kernel)]; exact ⟨rfl, rfl⟩))
    (fun os started H enc _ => lifted os started H enc)

theorem proved : Rows.FnDurationSumsCardSaid :=
  Claim7.holds_tied_plain_at .later [] [.sentinel] true (true, "b7b2e4baf9ca9fd1499d162b2fa37a622377aa7f4a44ec6353ce35d9e50c0b66") false
    over (fun _ h => by cases h) (by kernel_rfl) (fun _ h => by cases h) fnDurationSums_row_tie rfl ⟨rfl, rfl⟩ (by kernel_rfl) rfl
    (fun f fn hf hfn => by
      obtain rfl : f = 4 := Option.some.inj ((show Tryd.prog.funcNamed "pub-claviger/laws.FnDurationSums" = some 4 by kernel_rfl).symm.trans hf) |>.symm
      obtain rfl : fn = Tryd.f4 := (Option.some.inj (Tryd.func4.symm.trans hfn)).symm
      exact ⟨by kernel_rfl, fun j t ht => by
        rw [Tryd.params4] at ht
        have hm : t ∈ [28, 5, 4] := by simpa using Array.mem_of_getElem? ht
        have hall : ([28, 5, 4].all fun u => !Tryd.prog.wantsStandIn u) = true := by kernel_rfl
        exact (show Tryd.prog.wantsStandIn t = false by simpa using List.all_eq_true.1 hall t hm)⟩)
    (by kernel_rfl)
#print axioms proved

end fnDurationSums
end Go.Proofs.YtgliaglnblhinaaDoor

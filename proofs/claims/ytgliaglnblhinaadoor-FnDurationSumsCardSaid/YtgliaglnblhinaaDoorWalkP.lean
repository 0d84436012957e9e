/-
  The function ParseDuration returns the duration of a text that is read to its end, and no error.
  Conditions: the text has at most 1000 bytes.
-/
import Derived.Test.YtgliaglnblhinaaDoorParse
import Derived.Deep.QuietTactic
import Derived.BigQuiet
import Derived.Deep.LoopGhost
namespace Go.Proofs.YtgliaglnblhinaaDoor
open Go.ChangeShapes Go.WideShapes Go.ChangeAt Go.RowKit Go.Maps Go.WideMaps

def ParsePost (f : Int) (W : World) (e : Ending) (W' : World) : Prop :=
  e = .returned (.tuple #[.agg #[.int .i64 f], .nilIface]) ∧ Below W.heap.size W W'

theorem good_inv {l : List UInt8} {u t v f : Nat} {h : Bool} (g : Good l u t v h f) :
    (l = [] ∧ u ≤ 5 ∧ v = 0 ∧ h = false ∧ t = f) ∨
    (∃ c r, l = c :: r ∧ 48 ≤ c.toNat ∧ c.toNat ≤ 57 ∧ u < 5 ∧ v * 10 + (c.toNat - 48) ≤ 9223372036854775807 ∧ Good r u t (v * 10 + (c.toNat - 48)) true f) ∨
    (∃ k r, l = nm k ++ r ∧ k < 5 ∧ u ≤ k ∧ h = true ∧ v * sz k + t ≤ 9223372036854775807 ∧ (k = 2 → r.head? ≠ some 115) ∧ Good r (k + 1) (t + v * sz k) 0 false f) := by
  cases g with
  | fin _ _ a => exact .inl ⟨rfl, a, rfl, rfl, rfl⟩
  | dig c r _ _ _ _ _ a b d e g => exact .inr (.inl ⟨c, r, rfl, a, b, d, e, g⟩)
  | unit k r _ _ _ _ a b d e g => exact .inr (.inr ⟨k, r, rfl, a, b, rfl, d, e, g⟩)

/-- The byte at a place, of what is left there. -/
theorem drop_cons {s : ByteArray} {i : Nat} {c : UInt8} {r : List UInt8} (h : s.data.toList.drop i = c :: r) :
    ∃ hi : i < s.size, s[i] = c ∧ s.data.toList.drop (i + 1) = r := by
  have hl : i < s.data.toList.length := by
    apply Nat.lt_of_not_le; intro hn
    rw [List.drop_of_length_le hn] at h; simp at h
  have e := List.drop_eq_getElem_cons hl
  rw [e] at h
  injection h with h1 h2
  exact ⟨by simpa using hl, by rw [← h1]; rfl, h2⟩

theorem drop_nil {s : ByteArray} {i : Nat} (hi : i ≤ s.size) (h : s.data.toList.drop i = []) : i = s.size := by
  have := List.drop_eq_nil_iff.1 h
  simp at this
  omega

theorem extract_one {s : ByteArray} {i : Nat} (hi : i < s.size) {c : UInt8} (h : s[i] = c) : s.extract i (i + 1) = ⟨#[c]⟩ := by
  apply ByteArray.ext
  simp only [ByteArray.data_extract]
  apply Array.ext
  · simp; have : s.data.size = s.size := rfl; omega
  · intro j h1 h2
    simp at h2
    subst h2
    simp
    exact h

theorem look {w w' : World} (h : MilPost w w') (k : Nat) (hk : k < 5) :
    (Instr.lookup 73 (.map (some w.heap.size)) (.string ⟨(nm k).toArray⟩) false).run Tryd.prog w' = .ok (.int .i64 (sz k)) w' := mil_look h.1 k hk
theorem look0 {w w' : World} (h : MilPost w w') :
    (Instr.lookup 73 (.map (some w.heap.size)) (.string ⟨#[100]⟩) false).run Tryd.prog w' = .ok (.int .i64 86400000) w' := look h 0 (by omega)
theorem look1 {w w' : World} (h : MilPost w w') :
    (Instr.lookup 73 (.map (some w.heap.size)) (.string ⟨#[104]⟩) false).run Tryd.prog w' = .ok (.int .i64 3600000) w' := look h 1 (by omega)
theorem look2 {w w' : World} (h : MilPost w w') :
    (Instr.lookup 73 (.map (some w.heap.size)) (.string ⟨#[109]⟩) false).run Tryd.prog w' = .ok (.int .i64 60000) w' := look h 2 (by omega)
theorem look3 {w w' : World} (h : MilPost w w') :
    (Instr.lookup 73 (.map (some w.heap.size)) (.string ⟨#[115]⟩) false).run Tryd.prog w' = .ok (.int .i64 1000) w' := look h 3 (by omega)
theorem look4 {w w' : World} (h : MilPost w w') :
    (Instr.lookup 73 (.map (some w.heap.size)) (.string ⟨#[109, 115]⟩) false).run Tryd.prog w' = .ok (.int .i64 1) w' := look h 4 (by omega)

theorem kept {W wr w' : World} {o : Obj} (hb : Below (W.heap.size + 1) (W.alloc o) wr) (h : MilPost wr w') : Below (W.heap.size + 1) (W.alloc o) w' :=
  hb.trans (h.2.mono (by have := hb.size; simpa using this))

theorem kept_alloc {W wr : World} {o o' : Obj} (hb : Below (W.heap.size + 1) (W.alloc o) wr) : Below (W.heap.size + 1) (W.alloc o) (wr.alloc o') :=
  hb.alloc (by have := hb.size; simpa using this) _

theorem num_eq {a b : Int} (h : a = b) : Value.int .i64 a = Value.int .i64 b := by rw [h]

set_option maxRecDepth 100000 in
set_option maxHeartbeats 4000000 in
theorem parse_pos (s : ByteArray) (f : Nat) (W : World) (h2 : 1 < s.size) (hs : s.size ≤ 1000) (hf : f ≤ 9223372036854775807) (h0 : ((((s[0]'(by omega)).toNat : Nat) : Int) == 45) = false) (hg : Good (s.data.toList.drop 0) 0 0 0 false f) :
    Calls Tryd.prog 23 #[.string s] W (ParsePost f W) := by
  go_enter Tryd.func23, Tryd.ntmps23
  go_wp2
  go_loopw [3, 4, 5, 7, 8, 10] (fun ev iv uv tv vv hv wr => ∃ (i u t v : Nat) (h : Bool), ev = .nilIface ∧ iv = .int .i64 i ∧ uv = .int .i64 u ∧ tv = .int .i64 t ∧ vv = .int .i64 v ∧ hv = .bool h ∧ i ≤ s.size ∧
      Good (s.data.toList.drop i) u t v h f ∧ Below (W.heap.size + 1) (W.alloc (.cells #[.int .i64 0] 60)) wr)
    (fun _ iv _ _ _ _ _ => s.size - (intOf iv).toNat)
  case atStart => exact ⟨0, 0, 0, 0, false, rfl, rfl, rfl, rfl, rfl, rfl, by omega, hg, Below.refl _ _⟩
  case round =>
    obtain ⟨i, u, t, v, h, rfl, rfl, rfl, rfl, rfl, rfl, hi, hG, hb⟩ := hrel
    clear h0 hg
    rcases good_inv hG with ⟨hl, hu, hv, hh, ht⟩ | ⟨c, r, hl, hc1, hc2, hu, hv, hr⟩ | ⟨k, r, hl, hk, hu, hh, hv, hm, hr⟩
    · obtain rfl := drop_nil hi hl
      subst hv hh ht
      clear hG hl
      have hcell : wr.cell? ⟨W.heap.size, 0, none⟩ = some (.int .i64 0) := by
        rw [hb.cell (p := ⟨W.heap.size, 0, none⟩) (by simp), World.cell?_alloc_at _ _ _ _ rfl]; rfl
      have hfz : wr.frozen? ⟨W.heap.size, 0, none⟩ = false := by
        rw [hb.frozen (p := ⟨W.heap.size, 0, none⟩) (by simp)]; simp [go_sem]
      have hfin : Below W.heap.size W (wr.setCell ⟨W.heap.size, 0, none⟩ (.int .i64 t)) :=
        (((Below.refl _ W).alloc (Nat.le_refl _) _).trans (hb.mono (by omega))).setCell (Nat.le_refl _) _
      have hcell2 : (wr.setCell ⟨W.heap.size, 0, none⟩ (.int .i64 t)).cell? ⟨W.heap.size, 0, none⟩ = some (.int .i64 t) := World.cell?_setCell_same' _ _ _ (by rw [hcell]; rfl)
      go_wp2
      simp [bodyPost, results, Tryd.results23, go_sem, hcell2]
      exact ⟨rfl, hfin⟩
    · obtain ⟨hi2, hc, hd⟩ := drop_cons hl
      have q1 : (48 : Int) ≤ (c.toNat : Int) := by omega
      have q2 : (c.toNat : Int) ≤ 57 := by omega
      have q4 : (v : Int) * 10 + ((c.toNat : Int) - 48) ≤ 9223372036854775807 := by omega
      have q5 : (u : Int) < 5 := by omega
      clear hG hl
      go_wp2
      go_roundw
      case rel => exact ⟨i + 1, u, t, v * 10 + (c.toNat - 48), true, rfl, by go_num, rfl, rfl, num_eq (by omega), rfl, by omega, by rw [hd]; exact hr, kept_alloc hb⟩
      case measure => simp [intOf]; omega
    · have hk' : k = 0 ∨ k = 1 ∨ k = 2 ∨ k = 3 ∨ k = 4 := by omega
      rcases hk' with rfl | rfl | rfl | rfl | rfl
      · obtain ⟨hi2, hc, hd⟩ := drop_cons (show s.data.toList.drop i = 100 :: r from hl)
        have hx := extract_one hi2 hc
        have hz : (v : Int) * 86400000 + (t : Int) ≤ 9223372036854775807 := by have : v * 86400000 + t ≤ 9223372036854775807 := hv; omega
        have hr' : Good r 1 (t + v * 86400000) 0 false f := hr
        subst hh
        clear hG hl hv hr hm hk
        go_wp2
        go_loopw [5, 12] (fun uv ov wr => ∃ u' : Nat, ((u ≤ u' ∧ u' ≤ 0 ∧ uv = .int .i64 u' ∧ ov = .bool false) ∨ (uv = .int .i64 1 ∧ ov = .bool true)) ∧ Below (W.heap.size + 1) (W.alloc (.cells #[.int .i64 0] 60)) wr)
          (fun uv _ _ => 6 - (intOf uv).toNat)
        case atStart => exact ⟨u, .inl ⟨Nat.le_refl _, hu, rfl, rfl⟩, kept_alloc hb⟩
        case round =>
          clear hb
          obtain ⟨u', hrel, hb⟩ := hrel
          rcases hrel with ⟨hu1, hu2, rfl, rfl⟩ | ⟨rfl, rfl⟩
          · have hu' : u' = 0 := by omega
            rcases hu' with rfl
            all_goals
              go_wp2
              go_roundw
              case rel => first | exact ⟨0, .inr ⟨rfl, rfl⟩, kept_alloc (kept_alloc hb)⟩ | exact ⟨_, .inl ⟨Nat.le_succ_of_le hu1, by omega, by go_num, rfl⟩, kept_alloc (kept_alloc hb)⟩
              case measure => simp [intOf]
          · go_wp2_with (go_at_call 28; refine (toMillis _).mono ?_; rintro e w9 ⟨rfl, hm9⟩; have hlk := look0 hm9)
            go_roundw
            case rel => exact ⟨i + 1, 1, t + v * 86400000, 0, false, rfl, by go_num, rfl, num_eq (by omega), rfl, rfl, by omega, by rw [hd]; exact hr', kept hb hm9⟩
            case measure => simp [intOf]; omega
      · obtain ⟨hi2, hc, hd⟩ := drop_cons (show s.data.toList.drop i = 104 :: r from hl)
        have hx := extract_one hi2 hc
        have hz : (v : Int) * 3600000 + (t : Int) ≤ 9223372036854775807 := by have : v * 3600000 + t ≤ 9223372036854775807 := hv; omega
        have hr' : Good r 2 (t + v * 3600000) 0 false f := hr
        subst hh
        clear hG hl hv hr hm hk
        go_wp2
        go_loopw [5, 12] (fun uv ov wr => ∃ u' : Nat, ((u ≤ u' ∧ u' ≤ 1 ∧ uv = .int .i64 u' ∧ ov = .bool false) ∨ (uv = .int .i64 2 ∧ ov = .bool true)) ∧ Below (W.heap.size + 1) (W.alloc (.cells #[.int .i64 0] 60)) wr)
          (fun uv _ _ => 6 - (intOf uv).toNat)
        case atStart => exact ⟨u, .inl ⟨Nat.le_refl _, hu, rfl, rfl⟩, kept_alloc hb⟩
        case round =>
          clear hb
          obtain ⟨u', hrel, hb⟩ := hrel
          rcases hrel with ⟨hu1, hu2, rfl, rfl⟩ | ⟨rfl, rfl⟩
          · have hu' : u' = 0 ∨ u' = 1 := by omega
            rcases hu' with rfl | rfl
            all_goals
              go_wp2
              go_roundw
              case rel => first | exact ⟨0, .inr ⟨rfl, rfl⟩, kept_alloc (kept_alloc hb)⟩ | exact ⟨_, .inl ⟨Nat.le_succ_of_le hu1, by omega, by go_num, rfl⟩, kept_alloc (kept_alloc hb)⟩
              case measure => simp [intOf]
          · go_wp2_with (go_at_call 28; refine (toMillis _).mono ?_; rintro e w9 ⟨rfl, hm9⟩; have hlk := look1 hm9)
            go_roundw
            case rel => exact ⟨i + 1, 2, t + v * 3600000, 0, false, rfl, by go_num, rfl, num_eq (by omega), rfl, rfl, by omega, by rw [hd]; exact hr', kept hb hm9⟩
            case measure => simp [intOf]; omega
      · obtain ⟨hi2, hc, hd⟩ := drop_cons (show s.data.toList.drop i = 109 :: r from hl)
        have hx := extract_one hi2 hc
        have hz : (v : Int) * 60000 + (t : Int) ≤ 9223372036854775807 := by have : v * 60000 + t ≤ 9223372036854775807 := hv; omega
        have hr' : Good r 3 (t + v * 60000) 0 false f := hr
        subst hh
        have hm2 := hm rfl
        clear hG hl hv hr hm hk
        by_cases hn : i + 1 < s.size
        · have hn' : ((i : Int) + 1) < (s.size : Int) := by omega
          have hq : ((((s[i + 1]'hn).toNat : Nat) : Int) == 115) = false := by
            have e := List.drop_eq_getElem_cons (show i + 1 < s.data.toList.length by simpa using hn)
            rw [hd] at e
            rw [e] at hm2
            simp at hm2
            simp
            intro h
            apply hm2
            apply UInt8.toNat_inj.1
            have h' : (s[i + 1]'hn).toNat = 115 := by omega
            exact h'
          clear hm2
          go_wp2
          go_loopw [5, 12] (fun uv ov wr => ∃ u' : Nat, ((u ≤ u' ∧ u' ≤ 2 ∧ uv = .int .i64 u' ∧ ov = .bool false) ∨ (uv = .int .i64 3 ∧ ov = .bool true)) ∧ Below (W.heap.size + 1) (W.alloc (.cells #[.int .i64 0] 60)) wr)
            (fun uv _ _ => 6 - (intOf uv).toNat)
          case atStart => exact ⟨u, .inl ⟨Nat.le_refl _, hu, rfl, rfl⟩, kept_alloc hb⟩
          case round =>
            clear hb
            obtain ⟨u', hrel, hb⟩ := hrel
            rcases hrel with ⟨hu1, hu2, rfl, rfl⟩ | ⟨rfl, rfl⟩
            · have hu' : u' = 0 ∨ u' = 1 ∨ u' = 2 := by omega
              rcases hu' with rfl | rfl | rfl
              all_goals
                go_wp2
                go_roundw
                case rel => first | exact ⟨0, .inr ⟨rfl, rfl⟩, kept_alloc (kept_alloc hb)⟩ | exact ⟨_, .inl ⟨Nat.le_succ_of_le hu1, by omega, by go_num, rfl⟩, kept_alloc (kept_alloc hb)⟩
                case measure => simp [intOf]
            · go_wp2_with (go_at_call 28; refine (toMillis _).mono ?_; rintro e w9 ⟨rfl, hm9⟩; have hlk := look2 hm9)
              go_roundw
              case rel => exact ⟨i + 1, 3, t + v * 60000, 0, false, rfl, by go_num, rfl, num_eq (by omega), rfl, rfl, by omega, by rw [hd]; exact hr', kept hb hm9⟩
              case measure => simp [intOf]; omega
        · have hn' : ¬ ((i : Int) + 1) < (s.size : Int) := by omega
          clear hm2
          go_wp2
          go_loopw [5, 12] (fun uv ov wr => ∃ u' : Nat, ((u ≤ u' ∧ u' ≤ 2 ∧ uv = .int .i64 u' ∧ ov = .bool false) ∨ (uv = .int .i64 3 ∧ ov = .bool true)) ∧ Below (W.heap.size + 1) (W.alloc (.cells #[.int .i64 0] 60)) wr)
            (fun uv _ _ => 6 - (intOf uv).toNat)
          case atStart => exact ⟨u, .inl ⟨Nat.le_refl _, hu, rfl, rfl⟩, kept_alloc hb⟩
          case round =>
            clear hb
            obtain ⟨u', hrel, hb⟩ := hrel
            rcases hrel with ⟨hu1, hu2, rfl, rfl⟩ | ⟨rfl, rfl⟩
            · have hu' : u' = 0 ∨ u' = 1 ∨ u' = 2 := by omega
              rcases hu' with rfl | rfl | rfl
              all_goals
                go_wp2
                go_roundw
                case rel => first | exact ⟨0, .inr ⟨rfl, rfl⟩, kept_alloc (kept_alloc hb)⟩ | exact ⟨_, .inl ⟨Nat.le_succ_of_le hu1, by omega, by go_num, rfl⟩, kept_alloc (kept_alloc hb)⟩
                case measure => simp [intOf]
            · go_wp2_with (go_at_call 28; refine (toMillis _).mono ?_; rintro e w9 ⟨rfl, hm9⟩; have hlk := look2 hm9)
              go_roundw
              case rel => exact ⟨i + 1, 3, t + v * 60000, 0, false, rfl, by go_num, rfl, num_eq (by omega), rfl, rfl, by omega, by rw [hd]; exact hr', kept hb hm9⟩
              case measure => simp [intOf]; omega
      · obtain ⟨hi2, hc, hd⟩ := drop_cons (show s.data.toList.drop i = 115 :: r from hl)
        have hx := extract_one hi2 hc
        have hz : (v : Int) * 1000 + (t : Int) ≤ 9223372036854775807 := by have : v * 1000 + t ≤ 9223372036854775807 := hv; omega
        have hr' : Good r 4 (t + v * 1000) 0 false f := hr
        subst hh
        clear hG hl hv hr hm hk
        go_wp2
        go_loopw [5, 12] (fun uv ov wr => ∃ u' : Nat, ((u ≤ u' ∧ u' ≤ 3 ∧ uv = .int .i64 u' ∧ ov = .bool false) ∨ (uv = .int .i64 4 ∧ ov = .bool true)) ∧ Below (W.heap.size + 1) (W.alloc (.cells #[.int .i64 0] 60)) wr)
          (fun uv _ _ => 6 - (intOf uv).toNat)
        case atStart => exact ⟨u, .inl ⟨Nat.le_refl _, hu, rfl, rfl⟩, kept_alloc hb⟩
        case round =>
          clear hb
          obtain ⟨u', hrel, hb⟩ := hrel
          rcases hrel with ⟨hu1, hu2, rfl, rfl⟩ | ⟨rfl, rfl⟩
          · have hu' : u' = 0 ∨ u' = 1 ∨ u' = 2 ∨ u' = 3 := by omega
            rcases hu' with rfl | rfl | rfl | rfl
            all_goals
              go_wp2
              go_roundw
              case rel => first | exact ⟨0, .inr ⟨rfl, rfl⟩, kept_alloc (kept_alloc hb)⟩ | exact ⟨_, .inl ⟨Nat.le_succ_of_le hu1, by omega, by go_num, rfl⟩, kept_alloc (kept_alloc hb)⟩
              case measure => simp [intOf]
          · go_wp2_with (go_at_call 28; refine (toMillis _).mono ?_; rintro e w9 ⟨rfl, hm9⟩; have hlk := look3 hm9)
            go_roundw
            case rel => exact ⟨i + 1, 4, t + v * 1000, 0, false, rfl, by go_num, rfl, num_eq (by omega), rfl, rfl, by omega, by rw [hd]; exact hr', kept hb hm9⟩
            case measure => simp [intOf]; omega
      · obtain ⟨hi2, hc, hd⟩ := drop_cons (show s.data.toList.drop i = 109 :: (115 :: r) from hl)
        obtain ⟨hi3, hc3, hd3⟩ := drop_cons hd
        have hi3' : ((i : Int) + 1) < (s.size : Int) := by omega
        have hz : (v : Int) * 1 + (t : Int) ≤ 9223372036854775807 := by have : v * 1 + t ≤ 9223372036854775807 := hv; omega
        have hr' : Good r 5 (t + v * 1) 0 false f := hr
        subst hh
        clear hG hl hv hr hm hk
        go_wp2
        go_loopw [5, 12] (fun uv ov wr => ∃ u' : Nat, ((u ≤ u' ∧ u' ≤ 4 ∧ uv = .int .i64 u' ∧ ov = .bool false) ∨ (uv = .int .i64 5 ∧ ov = .bool true)) ∧ Below (W.heap.size + 1) (W.alloc (.cells #[.int .i64 0] 60)) wr)
          (fun uv _ _ => 6 - (intOf uv).toNat)
        case atStart => exact ⟨u, .inl ⟨Nat.le_refl _, hu, rfl, rfl⟩, kept_alloc hb⟩
        case round =>
          clear hb
          obtain ⟨u', hrel, hb⟩ := hrel
          rcases hrel with ⟨hu1, hu2, rfl, rfl⟩ | ⟨rfl, rfl⟩
          · have hu' : u' = 0 ∨ u' = 1 ∨ u' = 2 ∨ u' = 3 ∨ u' = 4 := by omega
            rcases hu' with rfl | rfl | rfl | rfl | rfl
            all_goals
              go_wp2
              go_roundw
              case rel => first | exact ⟨0, .inr ⟨rfl, rfl⟩, kept_alloc (kept_alloc hb)⟩ | exact ⟨_, .inl ⟨Nat.le_succ_of_le hu1, by omega, by go_num, rfl⟩, kept_alloc (kept_alloc hb)⟩
              case measure => simp [intOf]
          · go_wp2_with (go_at_call 28; refine (toMillis _).mono ?_; rintro e w9 ⟨rfl, hm9⟩; have hlk := look4 hm9)
            go_roundw
            case rel => exact ⟨i + 2, 5, t + v * 1, 0, false, rfl, by go_num, rfl, num_eq (by omega), rfl, rfl, by omega, by rw [hd3]; exact hr', kept hb hm9⟩
            case measure => simp [intOf]; omega

set_option maxRecDepth 100000 in
set_option maxHeartbeats 4000000 in
theorem parse_neg (s : ByteArray) (f : Nat) (W : World) (h2 : 1 < s.size) (hs : s.size ≤ 1000) (hf : f ≤ 9223372036854775807) (h0 : ((((s[0]'(by omega)).toNat : Nat) : Int) == 45) = true) (hg : Good (s.data.toList.drop 1) 0 0 0 false f) :
    Calls Tryd.prog 23 #[.string s] W (ParsePost (-(f : Int)) W) := by
  go_enter Tryd.func23, Tryd.ntmps23
  go_wp2
  go_loopw [3, 4, 5, 7, 8, 10] (fun ev iv uv tv vv hv wr => ∃ (i u t v : Nat) (h : Bool), ev = .nilIface ∧ iv = .int .i64 i ∧ uv = .int .i64 u ∧ tv = .int .i64 t ∧ vv = .int .i64 v ∧ hv = .bool h ∧ i ≤ s.size ∧
      Good (s.data.toList.drop i) u t v h f ∧ Below (W.heap.size + 1) (W.alloc (.cells #[.int .i64 0] 60)) wr)
    (fun _ iv _ _ _ _ _ => s.size - (intOf iv).toNat)
  case atStart => exact ⟨1, 0, 0, 0, false, rfl, rfl, rfl, rfl, rfl, rfl, by omega, hg, Below.refl _ _⟩
  case round =>
    obtain ⟨i, u, t, v, h, rfl, rfl, rfl, rfl, rfl, rfl, hi, hG, hb⟩ := hrel
    clear h0 hg
    rcases good_inv hG with ⟨hl, hu, hv, hh, ht⟩ | ⟨c, r, hl, hc1, hc2, hu, hv, hr⟩ | ⟨k, r, hl, hk, hu, hh, hv, hm, hr⟩
    · obtain rfl := drop_nil hi hl
      subst hv hh ht
      clear hG hl
      have hcell : wr.cell? ⟨W.heap.size, 0, none⟩ = some (.int .i64 0) := by
        rw [hb.cell (p := ⟨W.heap.size, 0, none⟩) (by simp), World.cell?_alloc_at _ _ _ _ rfl]; rfl
      have hfz : wr.frozen? ⟨W.heap.size, 0, none⟩ = false := by
        rw [hb.frozen (p := ⟨W.heap.size, 0, none⟩) (by simp)]; simp [go_sem]
      have hfin : Below W.heap.size W (wr.setCell ⟨W.heap.size, 0, none⟩ (.int .i64 (-(t : Int)))) :=
        (((Below.refl _ W).alloc (Nat.le_refl _) _).trans (hb.mono (by omega))).setCell (Nat.le_refl _) _
      have hcell2 : (wr.setCell ⟨W.heap.size, 0, none⟩ (.int .i64 (-(t : Int)))).cell? ⟨W.heap.size, 0, none⟩ = some (.int .i64 (-(t : Int))) := World.cell?_setCell_same' _ _ _ (by rw [hcell]; rfl)
      go_wp2
      simp [bodyPost, results, Tryd.results23, go_sem, hcell2]
      exact ⟨rfl, hfin⟩
    · obtain ⟨hi2, hc, hd⟩ := drop_cons hl
      have q1 : (48 : Int) ≤ (c.toNat : Int) := by omega
      have q2 : (c.toNat : Int) ≤ 57 := by omega
      have q4 : (v : Int) * 10 + ((c.toNat : Int) - 48) ≤ 9223372036854775807 := by omega
      have q5 : (u : Int) < 5 := by omega
      clear hG hl
      go_wp2
      go_roundw
      case rel => exact ⟨i + 1, u, t, v * 10 + (c.toNat - 48), true, rfl, by go_num, rfl, rfl, num_eq (by omega), rfl, by omega, by rw [hd]; exact hr, kept_alloc hb⟩
      case measure => simp [intOf]; omega
    · have hk' : k = 0 ∨ k = 1 ∨ k = 2 ∨ k = 3 ∨ k = 4 := by omega
      rcases hk' with rfl | rfl | rfl | rfl | rfl
      · obtain ⟨hi2, hc, hd⟩ := drop_cons (show s.data.toList.drop i = 100 :: r from hl)
        have hx := extract_one hi2 hc
        have hz : (v : Int) * 86400000 + (t : Int) ≤ 9223372036854775807 := by have : v * 86400000 + t ≤ 9223372036854775807 := hv; omega
        have hr' : Good r 1 (t + v * 86400000) 0 false f := hr
        subst hh
        clear hG hl hv hr hm hk
        go_wp2
        go_loopw [5, 12] (fun uv ov wr => ∃ u' : Nat, ((u ≤ u' ∧ u' ≤ 0 ∧ uv = .int .i64 u' ∧ ov = .bool false) ∨ (uv = .int .i64 1 ∧ ov = .bool true)) ∧ Below (W.heap.size + 1) (W.alloc (.cells #[.int .i64 0] 60)) wr)
          (fun uv _ _ => 6 - (intOf uv).toNat)
        case atStart => exact ⟨u, .inl ⟨Nat.le_refl _, hu, rfl, rfl⟩, kept_alloc hb⟩
        case round =>
          clear hb
          obtain ⟨u', hrel, hb⟩ := hrel
          rcases hrel with ⟨hu1, hu2, rfl, rfl⟩ | ⟨rfl, rfl⟩
          · have hu' : u' = 0 := by omega
            rcases hu' with rfl
            all_goals
              go_wp2
              go_roundw
              case rel => first | exact ⟨0, .inr ⟨rfl, rfl⟩, kept_alloc (kept_alloc hb)⟩ | exact ⟨_, .inl ⟨Nat.le_succ_of_le hu1, by omega, by go_num, rfl⟩, kept_alloc (kept_alloc hb)⟩
              case measure => simp [intOf]
          · go_wp2_with (go_at_call 28; refine (toMillis _).mono ?_; rintro e w9 ⟨rfl, hm9⟩; have hlk := look0 hm9)
            go_roundw
            case rel => exact ⟨i + 1, 1, t + v * 86400000, 0, false, rfl, by go_num, rfl, num_eq (by omega), rfl, rfl, by omega, by rw [hd]; exact hr', kept hb hm9⟩
            case measure => simp [intOf]; omega
      · obtain ⟨hi2, hc, hd⟩ := drop_cons (show s.data.toList.drop i = 104 :: r from hl)
        have hx := extract_one hi2 hc
        have hz : (v : Int) * 3600000 + (t : Int) ≤ 9223372036854775807 := by have : v * 3600000 + t ≤ 9223372036854775807 := hv; omega
        have hr' : Good r 2 (t + v * 3600000) 0 false f := hr
        subst hh
        clear hG hl hv hr hm hk
        go_wp2
        go_loopw [5, 12] (fun uv ov wr => ∃ u' : Nat, ((u ≤ u' ∧ u' ≤ 1 ∧ uv = .int .i64 u' ∧ ov = .bool false) ∨ (uv = .int .i64 2 ∧ ov = .bool true)) ∧ Below (W.heap.size + 1) (W.alloc (.cells #[.int .i64 0] 60)) wr)
          (fun uv _ _ => 6 - (intOf uv).toNat)
        case atStart => exact ⟨u, .inl ⟨Nat.le_refl _, hu, rfl, rfl⟩, kept_alloc hb⟩
        case round =>
          clear hb
          obtain ⟨u', hrel, hb⟩ := hrel
          rcases hrel with ⟨hu1, hu2, rfl, rfl⟩ | ⟨rfl, rfl⟩
          · have hu' : u' = 0 ∨ u' = 1 := by omega
            rcases hu' with rfl | rfl
            all_goals
              go_wp2
              go_roundw
              case rel => first | exact ⟨0, .inr ⟨rfl, rfl⟩, kept_alloc (kept_alloc hb)⟩ | exact ⟨_, .inl ⟨Nat.le_succ_of_le hu1, by omega, by go_num, rfl⟩, kept_alloc (kept_alloc hb)⟩
              case measure => simp [intOf]
          · go_wp2_with (go_at_call 28; refine (toMillis _).mono ?_; rintro e w9 ⟨rfl, hm9⟩; have hlk := look1 hm9)
            go_roundw
            case rel => exact ⟨i + 1, 2, t + v * 3600000, 0, false, rfl, by go_num, rfl, num_eq (by omega), rfl, rfl, by omega, by rw [hd]; exact hr', kept hb hm9⟩
            case measure => simp [intOf]; omega
      · obtain ⟨hi2, hc, hd⟩ := drop_cons (show s.data.toList.drop i = 109 :: r from hl)
        have hx := extract_one hi2 hc
        have hz : (v : Int) * 60000 + (t : Int) ≤ 9223372036854775807 := by have : v * 60000 + t ≤ 9223372036854775807 := hv; omega
        have hr' : Good r 3 (t + v * 60000) 0 false f := hr
        subst hh
        have hm2 := hm rfl
        clear hG hl hv hr hm hk
        by_cases hn : i + 1 < s.size
        · have hn' : ((i : Int) + 1) < (s.size : Int) := by omega
          have hq : ((((s[i + 1]'hn).toNat : Nat) : Int) == 115) = false := by
            have e := List.drop_eq_getElem_cons (show i + 1 < s.data.toList.length by simpa using hn)
            rw [hd] at e
            rw [e] at hm2
            simp at hm2
            simp
            intro h
            apply hm2
            apply UInt8.toNat_inj.1
            have h' : (s[i + 1]'hn).toNat = 115 := by omega
            exact h'
          clear hm2
          go_wp2
          go_loopw [5, 12] (fun uv ov wr => ∃ u' : Nat, ((u ≤ u' ∧ u' ≤ 2 ∧ uv = .int .i64 u' ∧ ov = .bool false) ∨ (uv = .int .i64 3 ∧ ov = .bool true)) ∧ Below (W.heap.size + 1) (W.alloc (.cells #[.int .i64 0] 60)) wr)
            (fun uv _ _ => 6 - (intOf uv).toNat)
          case atStart => exact ⟨u, .inl ⟨Nat.le_refl _, hu, rfl, rfl⟩, kept_alloc hb⟩
          case round =>
            clear hb
            obtain ⟨u', hrel, hb⟩ := hrel
            rcases hrel with ⟨hu1, hu2, rfl, rfl⟩ | ⟨rfl, rfl⟩
            · have hu' : u' = 0 ∨ u' = 1 ∨ u' = 2 := by omega
              rcases hu' with rfl | rfl | rfl
              all_goals
                go_wp2
                go_roundw
                case rel => first | exact ⟨0, .inr ⟨rfl, rfl⟩, kept_alloc (kept_alloc hb)⟩ | exact ⟨_, .inl ⟨Nat.le_succ_of_le hu1, by omega, by go_num, rfl⟩, kept_alloc (kept_alloc hb)⟩
                case measure => simp [intOf]
            · go_wp2_with (go_at_call 28; refine (toMillis _).mono ?_; rintro e w9 ⟨rfl, hm9⟩; have hlk := look2 hm9)
              go_roundw
              case rel => exact ⟨i + 1, 3, t + v * 60000, 0, false, rfl, by go_num, rfl, num_eq (by omega), rfl, rfl, by omega, by rw [hd]; exact hr', kept hb hm9⟩
              case measure => simp [intOf]; omega
        · have hn' : ¬ ((i : Int) + 1) < (s.size : Int) := by omega
          clear hm2
          go_wp2
          go_loopw [5, 12] (fun uv ov wr => ∃ u' : Nat, ((u ≤ u' ∧ u' ≤ 2 ∧ uv = .int .i64 u' ∧ ov = .bool false) ∨ (uv = .int .i64 3 ∧ ov = .bool true)) ∧ Below (W.heap.size + 1) (W.alloc (.cells #[.int .i64 0] 60)) wr)
            (fun uv _ _ => 6 - (intOf uv).toNat)
          case atStart => exact ⟨u, .inl ⟨Nat.le_refl _, hu, rfl, rfl⟩, kept_alloc hb⟩
          case round =>
            clear hb
            obtain ⟨u', hrel, hb⟩ := hrel
            rcases hrel with ⟨hu1, hu2, rfl, rfl⟩ | ⟨rfl, rfl⟩
            · have hu' : u' = 0 ∨ u' = 1 ∨ u' = 2 := by omega
              rcases hu' with rfl | rfl | rfl
              all_goals
                go_wp2
                go_roundw
                case rel => first | exact ⟨0, .inr ⟨rfl, rfl⟩, kept_alloc (kept_alloc hb)⟩ | exact ⟨_, .inl ⟨Nat.le_succ_of_le hu1, by omega, by go_num, rfl⟩, kept_alloc (kept_alloc hb)⟩
                case measure => simp [intOf]
            · go_wp2_with (go_at_call 28; refine (toMillis _).mono ?_; rintro e w9 ⟨rfl, hm9⟩; have hlk := look2 hm9)
              go_roundw
              case rel => exact ⟨i + 1, 3, t + v * 60000, 0, false, rfl, by go_num, rfl, num_eq (by omega), rfl, rfl, by omega, by rw [hd]; exact hr', kept hb hm9⟩
              case measure => simp [intOf]; omega
      · obtain ⟨hi2, hc, hd⟩ := drop_cons (show s.data.toList.drop i = 115 :: r from hl)
        have hx := extract_one hi2 hc
        have hz : (v : Int) * 1000 + (t : Int) ≤ 9223372036854775807 := by have : v * 1000 + t ≤ 9223372036854775807 := hv; omega
        have hr' : Good r 4 (t + v * 1000) 0 false f := hr
        subst hh
        clear hG hl hv hr hm hk
        go_wp2
        go_loopw [5, 12] (fun uv ov wr => ∃ u' : Nat, ((u ≤ u' ∧ u' ≤ 3 ∧ uv = .int .i64 u' ∧ ov = .bool false) ∨ (uv = .int .i64 4 ∧ ov = .bool true)) ∧ Below (W.heap.size + 1) (W.alloc (.cells #[.int .i64 0] 60)) wr)
          (fun uv _ _ => 6 - (intOf uv).toNat)
        case atStart => exact ⟨u, .inl ⟨Nat.le_refl _, hu, rfl, rfl⟩, kept_alloc hb⟩
        case round =>
          clear hb
          obtain ⟨u', hrel, hb⟩ := hrel
          rcases hrel with ⟨hu1, hu2, rfl, rfl⟩ | ⟨rfl, rfl⟩
          · have hu' : u' = 0 ∨ u' = 1 ∨ u' = 2 ∨ u' = 3 := by omega
            rcases hu' with rfl | rfl | rfl | rfl
            all_goals
              go_wp2
              go_roundw
              case rel => first | exact ⟨0, .inr ⟨rfl, rfl⟩, kept_alloc (kept_alloc hb)⟩ | exact ⟨_, .inl ⟨Nat.le_succ_of_le hu1, by omega, by go_num, rfl⟩, kept_alloc (kept_alloc hb)⟩
              case measure => simp [intOf]
          · go_wp2_with (go_at_call 28; refine (toMillis _).mono ?_; rintro e w9 ⟨rfl, hm9⟩; have hlk := look3 hm9)
            go_roundw
            case rel => exact ⟨i + 1, 4, t + v * 1000, 0, false, rfl, by go_num, rfl, num_eq (by omega), rfl, rfl, by omega, by rw [hd]; exact hr', kept hb hm9⟩
            case measure => simp [intOf]; omega
      · obtain ⟨hi2, hc, hd⟩ := drop_cons (show s.data.toList.drop i = 109 :: (115 :: r) from hl)
        obtain ⟨hi3, hc3, hd3⟩ := drop_cons hd
        have hi3' : ((i : Int) + 1) < (s.size : Int) := by omega
        have hz : (v : Int) * 1 + (t : Int) ≤ 9223372036854775807 := by have : v * 1 + t ≤ 9223372036854775807 := hv; omega
        have hr' : Good r 5 (t + v * 1) 0 false f := hr
        subst hh
        clear hG hl hv hr hm hk
        go_wp2
        go_loopw [5, 12] (fun uv ov wr => ∃ u' : Nat, ((u ≤ u' ∧ u' ≤ 4 ∧ uv = .int .i64 u' ∧ ov = .bool false) ∨ (uv = .int .i64 5 ∧ ov = .bool true)) ∧ Below (W.heap.size + 1) (W.alloc (.cells #[.int .i64 0] 60)) wr)
          (fun uv _ _ => 6 - (intOf uv).toNat)
        case atStart => exact ⟨u, .inl ⟨Nat.le_refl _, hu, rfl, rfl⟩, kept_alloc hb⟩
        case round =>
          clear hb
          obtain ⟨u', hrel, hb⟩ := hrel
          rcases hrel with ⟨hu1, hu2, rfl, rfl⟩ | ⟨rfl, rfl⟩
          · have hu' : u' = 0 ∨ u' = 1 ∨ u' = 2 ∨ u' = 3 ∨ u' = 4 := by omega
            rcases hu' with rfl | rfl | rfl | rfl | rfl
            all_goals
              go_wp2
              go_roundw
              case rel => first | exact ⟨0, .inr ⟨rfl, rfl⟩, kept_alloc (kept_alloc hb)⟩ | exact ⟨_, .inl ⟨Nat.le_succ_of_le hu1, by omega, by go_num, rfl⟩, kept_alloc (kept_alloc hb)⟩
              case measure => simp [intOf]
          · go_wp2_with (go_at_call 28; refine (toMillis _).mono ?_; rintro e w9 ⟨rfl, hm9⟩; have hlk := look4 hm9)
            go_roundw
            case rel => exact ⟨i + 2, 5, t + v * 1, 0, false, rfl, by go_num, rfl, num_eq (by omega), rfl, rfl, by omega, by rw [hd3]; exact hr', kept hb hm9⟩
            case measure => simp [intOf]; omega

end Go.Proofs.YtgliaglnblhinaaDoor

/-
  The reference's Unescape, walked: it answers as the plain reading does.
  Conditions: sizes.
-/
import Derived.Test.YthklhdeegmanbaaDoorVal
import Derived.Lib.AppendStr
namespace Go.Proofs.YthklhdeegmanbaaDoor.Esc
open Go Go.ChangeShapes Go.WideShapes Go.ChangeAt Go.RowKit

theorem info5 : (Tryd.prog.info? 5).map (fun i => (i.zero, i.size, i.bytes)) = some (some (.int .u8 0), 1, 1) := by kernel_rfl
theorem lit_seq (w : World) (cs : Array Value) (t : TypeId) {n size : Nat} (h : cs.size = n * size := by rfl) : Seq (w.alloc (.cells cs t)) size (some ⟨w.heap.size, 0, none⟩) n cs.toList := by
  refine ⟨by simpa using h, .inr ⟨w.heap.size, 0, rfl, fun j u hu => ?_⟩⟩
  rw [World.cell?_alloc_at _ _ _ _ rfl, Nat.zero_add]
  simpa using hu
theorem own_slice {w : World} {base e size n : Nat} {v : Value} {xs : List Value} (h : w.ownsRow base e size v n xs) : ∃ A c, v = .slice A n c := by
  rcases h.2 with ⟨rfl, rfl⟩ | ⟨g, cap, cur, rfl, _⟩
  · exact ⟨_, _, rfl⟩
  · exact ⟨_, _, rfl⟩
theorem own_back {w : World} {base : Nat} {A : Option Addr} {c : Nat} {acc : Bs} (h : w.ownsRow base 5 1 (.slice A acc.length c) acc.length (Lib.byteCells acc)) : (convert 28 9 (.slice A acc.length c)).run Tryd.prog w = .ok (.string (bs acc)) w := by
  rcases (Seq.of_own h).2 with h0 | ⟨b, o, rfl, hc⟩
  · rw [h0, List.eq_nil_of_length_eq_zero h0]
    exact run_convert_bytes_zero w 28 5 Tryd.underlying28 Tryd.underlying5 A c 9 Tryd.underlying9
  · refine run_convert_bytes_back w 28 9 5 ⟨b, o, none⟩ c acc Tryd.underlying28 Tryd.underlying5 Tryd.underlying9 (fun j hj => ?_)
    rw [addr_add]
    exact hc j _ (by simp [Lib.byteCells, hj])
theorem slice_from (l : Bs) (z : Int) (k : Nat) (hz : z = (k : Int)) (hk : k ≤ l.length) (w : World) : (Instr.slice 9 (.string (bs l)) (some (.int .i64 z)) none none).run Tryd.prog w = .ok (.string (bs (l.drop k))) w := by
  subst hz
  rw [run_slice_string_l w 9 (bs l) Tryd.underlying9 .i64 (k : Int) (by omega) (by rw [bs_size]; omega)]
  have e1 : ((k : Int)).toNat = k := by omega
  rw [e1, bs_size, bs_extract, List.take_of_length_le (by rw [List.length_drop]; exact Nat.le_refl _)]
theorem slice_mid (l : Bs) (z z' : Int) (k m : Nat) (hz : z = (k : Int)) (hz' : z' = (k : Int) + m) (h : k + m ≤ l.length) (w : World) : (Instr.slice 9 (.string (bs l)) (some (.int .i64 z)) (some (.int .i64 z')) none).run Tryd.prog w = .ok (.string (bs ((l.drop k).take m))) w := by
  subst hz hz'
  rw [run_slice_string w 9 (bs l) .i64 .i64 (k : Int) ((k : Int) + m) Tryd.underlying9 (by omega) (by omega) (by rw [bs_size]; omega)]
  have e1 : ((k : Int)).toNat = k := by omega
  have e2 : ((k : Int) + (m : Int)).toNat = k + m := by omega
  rw [e1, e2, bs_extract, Nat.add_sub_cancel_left]

theorem size_zero {star : Bool} {l : Bs} (h : escSize l = 0) : esc star l = none := by
  match l, h with
  | [], _ => rfl
  | x :: r, h =>
    by_cases hs : x.toNat = 110 ∨ x.toNat = 114 ∨ x.toNat = 116 ∨ x.toNat = 92 ∨ x.toNat = 48 ∨ x.toNat = 39 ∨ x.toNat = 34 ∨ x.toNat = 42
    · rw [size_simple hs] at h; omega
    · have h0 : x.toNat ≠ 110 ∧ x.toNat ≠ 114 ∧ x.toNat ≠ 116 ∧ x.toNat ≠ 92 ∧ x.toNat ≠ 48 ∧ x.toNat ≠ 39 ∧ x.toNat ≠ 34 ∧ x.toNat ≠ 42 := by omega
      obtain ⟨s1, s2, s3, s4, s5, s6, s7, s8, s9, s10⟩ := esc_simple (star := star) (y := x) (t := r)
      by_cases h120 : x.toNat = 120
      · rw [size_hex h120] at h
        rw [s8 h120]
        unfold hexSize at h
        unfold hex2
        split at h
        · rename_i a b t
          split at h
          · omega
          · rename_i hh
            simp only
            cases va : hexVal a with
            | none => rfl
            | some v =>
              cases vb : hexVal b with
              | none => rfl
              | some u => exact absurd ⟨by rw [va]; rfl, by rw [vb]; rfl⟩ hh
        · rename_i hno
          split
          · rename_i a b t
            exact absurd rfl (hno a b t)
          · rfl
      · by_cases h117 : x.toNat = 117
        · rw [size_uni h117] at h
          rw [s9 h117]
          unfold long at h
          unfold uni
          split at h
          · rename_i y q
            simp only
            split at h
            · rename_i hy
              rw [if_pos hy]
              split at h
              · rename_i z t' e
                rw [e]
                simp only
                split at h
                · omega
                · rename_i hh
                  rw [if_neg (fun k => hh ⟨k.1, k.2.1, k.2.2.1⟩)]
              · rename_i e
                rw [e]
            · rename_i hy
              rw [if_neg hy]
          · rfl
        · exact esc_other ⟨h0.1, h0.2.1, h0.2.2.1, h0.2.2.2.1, h0.2.2.2.2.1, h0.2.2.2.2.2.1, h0.2.2.2.2.2.2.1, h120, h117, h0.2.2.2.2.2.2.2⟩

theorem esc_val (star : Bool) (y : UInt8) (t : Bs) (hS : escSize (y :: t) ≠ 0) (h42 : y.toNat ≠ 42) : ∃ (c : Int) (ok : Bool), (∀ w, Calls Tryd.prog 13 #[.string (bs ((y :: t).take (escSize (y :: t))))] w (VPost c ok w)) ∧
    esc star (y :: t) = (if ok = true then some (c, (y :: t).drop (escSize (y :: t))) else none) ∧ 0 ≤ c ∧ c ≤ 16777216 ∧ escSize (y :: t) ≤ (y :: t).length := by
  obtain ⟨s1, s2, s3, s4, s5, s6, s7, s8, s9, s10⟩ := esc_simple (star := star) (y := y) (t := t)
  by_cases hs : y.toNat = 110 ∨ y.toNat = 114 ∨ y.toNat = 116 ∨ y.toNat = 92 ∨ y.toNat = 48 ∨ y.toNat = 39 ∨ y.toNat = 34
  · rw [size_simple (by omega)]
    refine ⟨simpleVal y.toNat, true, fun w => val_simple y [] hs w, ?_, ?_, ?_, by simp⟩
    · rcases hs with h | h | h | h | h | h | h
      · rw [s1 h, h]; rfl
      · rw [s2 h, h]; rfl
      · rw [s3 h, h]; rfl
      · rw [s4 h, h]; rfl
      · rw [s5 h, h]; rfl
      · rw [s6 h, h]; rfl
      · rw [s7 h, h]; rfl
    · rcases hs with h | h | h | h | h | h | h <;> rw [h] <;> decide
    · rcases hs with h | h | h | h | h | h | h <;> rw [h] <;> decide
  by_cases h120 : y.toNat = 120
  · rw [size_hex h120] at hS ⊢
    rw [s8 h120]
    match t, hS with
    | a :: b :: t', hS =>
      unfold hexSize at hS ⊢
      simp only at hS ⊢
      by_cases hh : (hexVal a).isSome = true ∧ (hexVal b).isSome = true
      · rw [if_pos hh]
        obtain ⟨va, ha⟩ := Option.isSome_iff_exists.1 hh.1
        obtain ⟨vb, hb⟩ := Option.isSome_iff_exists.1 hh.2
        have l1 := (hexVal_lt ha).2
        have l2 := (hexVal_lt hb).2
        refine ⟨((16 * va + vb : Nat) : Int), decide (16 * va + vb < 128), fun w => val_hex y a b va vb h120 ha hb w, ?_, by omega, by omega, by simp⟩
        unfold hex2
        simp only [ha, hb]
        by_cases hl : 16 * va + vb ≤ 127
        · rw [if_pos hl, if_pos (decide_eq_true (by omega))]; rfl
        · rw [if_neg hl, if_neg (by simp; omega)]
      · rw [if_neg hh] at hS; exact absurd rfl hS
    | [], hS => exact absurd rfl hS
    | [a], hS => exact absurd rfl hS
  by_cases h117 : y.toNat = 117
  · rw [size_uni h117] at hS ⊢
    rw [s9 h117]
    match t, hS with
    | [], hS => exact absurd rfl hS
    | o :: r, hS =>
      by_cases ho : o.toNat = 123
      · have hlong : long (o :: r) = (match (hexRun r).2 with
          | y :: _ => if y.toNat = 125 ∧ 1 ≤ (hexRun r).1.length ∧ (hexRun r).1.length ≤ 6 then (hexRun r).1.length + 3 else 0
          | [] => 0) := if_pos ho
        have huni : uni (o :: r) = (match (hexRun r).2 with
          | y :: t => if y.toNat = 125 ∧ 1 ≤ (hexRun r).1.length ∧ (hexRun r).1.length ≤ 6 ∧ Lib.validRune (num16 (hexRun r).1) = true then some ((num16 (hexRun r).1 : Nat), t) else none
          | [] => none) := if_pos ho
        rw [hlong] at hS ⊢
        rw [huni]
        have htl := hexRun_tail r
        have hll := hexRun_eq r
        cases e : (hexRun r).2 with
        | nil => rw [e] at hS; exact absurd rfl hS
        | cons z t' =>
          rw [e] at hS htl hll
          simp only at hS ⊢
          by_cases hc : z.toNat = 125 ∧ 1 ≤ (hexRun r).1.length ∧ (hexRun r).1.length ≤ 6
          · rw [if_pos hc]
            have hN := num16_lt (hexRun_small r) hc.2.2
            simp only [List.length_cons] at hll
            have hlen : ((y :: o :: r).take ((hexRun r).1.length + 3)).length = (hexRun r).1.length + 3 := by rw [List.length_take]; simp; omega
            refine ⟨((num16 (hexRun r).1 : Nat) : Int), Lib.validRune ((num16 (hexRun r).1 : Nat) : Int), fun w => val_uni y r _ h117 hc.2.2 hlen rfl (fun j hj => ?_) w, ?_, by omega, by omega, by simp; omega⟩
            · rw [List.getElem?_take, if_pos (by omega)]
              simp
            · have hdr : (y :: o :: r).drop ((hexRun r).1.length + 3) = t' := by
                show (r.drop ((hexRun r).1.length + 1)) = t'
                rw [← List.drop_drop, htl]; rfl
              rw [hdr]
              cases hv : Lib.validRune ((num16 (hexRun r).1 : Nat) : Int) with
              | true => rw [if_pos ⟨hc.1, hc.2.1, hc.2.2, rfl⟩]; rfl
              | false => rw [if_neg (by rintro ⟨_, _, _, h⟩; cases h)]; rfl
          · rw [if_neg hc] at hS; exact absurd rfl hS
      · have : long (o :: r) = 0 := if_neg ho
        rw [this] at hS; exact absurd rfl hS
  · exact absurd (size_none ⟨by omega, by omega, by omega, by omega, by omega, by omega, by omega, h42, h120, h117⟩) hS

def RRel (l : Bs) (star : Bool) (n : Nat) (W : World) (ov iv : Value) (wr : World) : Prop :=
  ∃ (i : Nat) (acc : Bs), iv = .int .i64 i ∧ i ≤ n ∧ Good (l.drop i) ∧ unq star l = prep acc (unq star (l.drop i)) ∧ acc.length ≤ 4 * i ∧ wr.ownsRow W.heap.size 5 1 ov acc.length (Lib.byteCells acc) ∧ Since W wr
theorem r_esc {l : Bs} {star : Bool} {n k i' m : Nat} {z : Int} {W w' : World} {acc r t' : Bs} {x : UInt8} {c : Int} {v : Value} (hn : l.length = n) (hd : l.drop k = x :: r) (hx : x.toNat = 92) (hg : Good (l.drop k)) (hq : unq star l = prep acc (unq star (l.drop k))) (hal : acc.length ≤ 4 * k)
    (he : esc star r = some (c, t')) (hi : i' ≤ n) (hdi : l.drop i' = t') (hz : z = (i' : Int)) (hm : m = acc.length + (Lib.runeCells c).length) (hown : w'.ownsRow W.heap.size 5 1 v m (Lib.byteCells acc ++ Lib.runeCells c)) (hs : Since W w') : RRel l star n W v (.int .i64 z) w' := by
  subst hz hm
  have hk : k < i' := by
    have h1 := esc_len he
    rw [← hdi, List.length_drop] at h1
    have h2 := congrArg List.length hd
    rw [List.length_drop, List.length_cons] at h2
    omega
  have h4 := enc_len c
  refine ⟨i', acc ++ Lib.encodeRune c, rfl, hi, ?_, ?_, by rw [List.length_append]; omega, ?_, hs⟩
  · rw [hd] at hg
    rw [hdi]
    exact esc_good (good_cons (by omega) hg) he
  · rw [hq, hd, unq_esc hx he, prep_prep, hdi]
  · rw [← cells_rune, List.length_append, ← Lib.runeCells_length]
    exact hown
theorem r_plain {l : Bs} {star : Bool} {n k m : Nat} {z : Int} {W w' : World} {acc r : Bs} {x : UInt8} {v : Value} (hn : l.length = n) (hd : l.drop k = x :: r) (h1 : ¬ (star = true ∧ x.toNat = 42)) (h2 : x.toNat ≠ 92) (hg : Good (l.drop k)) (hq : unq star l = prep acc (unq star (l.drop k))) (hal : acc.length ≤ 4 * k)
    (hz : z = (k : Int) + ((Lib.decodeL (x :: r)).2 : Int)) (hm : m = acc.length + (bs ((x :: r).take (Lib.decodeL (x :: r)).2)).size) (hown : w'.ownsRow W.heap.size 5 1 v m (Lib.byteCells acc ++ Lib.strCells (bs ((x :: r).take (Lib.decodeL (x :: r)).2)))) (hs : Since W w') : RRel l star n W v (.int .i64 z) w' := by
  have hne : x :: r ≠ [] := by simp
  have hw := Lib.decodeL_width (x :: r)
  have hle := Lib.decodeL_le (x :: r) hne
  have hl := congrArg List.length hd
  rw [List.length_drop] at hl
  rw [hd] at hg hq
  obtain ⟨hd1, hg2⟩ := good_drop hne hg
  have h4 := enc_len ((Lib.decodeL (x :: r)).1 : Int)
  have h5 := encode_first hne hd1
  have e1 : l.drop (k + (Lib.decodeL (x :: r)).2) = (x :: r).drop (Lib.decodeL (x :: r)).2 := by rw [← List.drop_drop, hd]
  subst hm
  refine ⟨k + (Lib.decodeL (x :: r)).2, acc ++ (x :: r).take (Lib.decodeL (x :: r)).2, by rw [hz]; simp, by omega, by rw [e1]; exact hg2, ?_, ?_, ?_, hs⟩
  · rw [hq, unq_plain h1 h2, prep_prep, e1]
  · rw [List.length_append, ← h5]; omega
  · rw [Lib.byteCells_append, List.length_append, ← bs_size ((x :: r).take (Lib.decodeL (x :: r)).2)]
    have e2 : Lib.strCells (bs ((x :: r).take (Lib.decodeL (x :: r)).2)) = Lib.byteCells ((x :: r).take (Lib.decodeL (x :: r)).2) := by
      rw [Lib.strCells_eq]; simp [bs]
    rw [e2] at hown
    exact hown

end Go.Proofs.YthklhdeegmanbaaDoor.Esc

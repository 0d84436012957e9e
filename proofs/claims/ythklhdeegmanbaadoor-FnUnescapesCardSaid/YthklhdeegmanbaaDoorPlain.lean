/-
  What the reading of escapes answers, in plain lists of bytes; a text that is read to its end is read up to a star behind it.
  Conditions: none.
-/
import Derived.Lib.MapLaws
import Derived.Lib.ValidLaws
import Derived.Lib.TrimAscii
import Derived.Lib.TrimUEq
namespace Go.Proofs.YthklhdeegmanbaaDoor.Esc
open Go Go.Lib

abbrev Bs := List UInt8

/-- From rune to rune no U+FFFD, neither as such nor for want of UTF-8. -/
inductive Good : Bs → Prop
  | nil : Good []
  | step (l : Bs) (hne : l ≠ []) (h : (decodeL l).1 ≠ 65533) (hr : Good (l.drop (decodeL l).2)) : Good l

theorem good_of : ∀ (n : Nat) (l : Bs), l.length ≤ n → validD l = true → (∀ j, (l.drop j).take 3 ≠ [239, 191, 189]) → Good l
  | _, [], _, _, _ => .nil
  | 0, _ :: _, h, _, _ => by simp at h
  | n + 1, x :: r, h, hv, hj => by
    have hne : x :: r ≠ [] := by simp
    rw [validD_step _ hne] at hv
    have hw := decodeL_width (x :: r)
    by_cases hb : (decodeL (x :: r)).1 = 65533 ∧ (decodeL (x :: r)).2 = 1
    · rw [if_pos hb] at hv; cases hv
    · rw [if_neg hb] at hv
      refine .step _ hne (fun e => ?_) (good_of n _ (by rw [List.length_drop]; simp at h ⊢; omega) hv (fun j => by rw [List.drop_drop]; exact hj _))
      have e2 := encode_decode (x :: r) hne hb
      rw [e] at e2
      have e3 : encodeRune ((65533 : Nat) : Int) = [239, 191, 189] := by decide
      rw [e3] at e2
      have h3 : (decodeL (x :: r)).2 = 3 ∨ (x :: r).take 3 = [239, 191, 189] := by
        have hl := congrArg List.length e2
        simp at hl
        by_cases h4 : (decodeL (x :: r)).2 = 3
        · exact .inl h4
        · right
          have : (x :: r).length = 3 := by simp at h ⊢; omega
          rw [List.take_of_length_le (by omega)]
          rw [List.take_of_length_le (by simp at this ⊢; omega)] at e2
          exact e2.symm
      rcases h3 with h3 | h3
      · rw [h3] at e2
        exact hj 0 (by rw [List.drop_zero]; exact e2.symm)
      · exact hj 0 (by rw [List.drop_zero]; exact h3)

theorem good_cons {x : UInt8} {r : Bs} (hx : x.toNat < 128) (h : Good (x :: r)) : Good r := by
  cases h with
  | step _ hne h hr => rw [decodeL_ascii x r hx] at hr; exact hr
theorem good_drop {l : Bs} (hne : l ≠ []) (h : Good l) : (decodeL l).1 ≠ 65533 ∧ Good (l.drop (decodeL l).2) := by
  cases h with
  | nil => exact absurd rfl hne
  | step _ _ h hr => exact ⟨h, hr⟩
theorem high {x : UInt8} {r : Bs} (hx : ¬ x.toNat < 128) : 128 ≤ (decodeL (x :: r)).1 := by
  rw [decodeL_N]
  unfold decodeN
  have h0 : ((x :: r).getD 0 0).toNat = x.toNat := rfl
  rw [h0]
  have h1 := UInt8.toNat_lt x
  rw [if_neg hx]
  repeat' split
  all_goals (simp only; omega)
/-- The first rune is the first byte, or neither is ASCII. -/
theorem first_rune {x : UInt8} {r : Bs} : (x.toNat < 128 ∧ decodeL (x :: r) = (x.toNat, 1)) ∨ (128 ≤ x.toNat ∧ 128 ≤ (decodeL (x :: r)).1) := by
  by_cases h : x.toNat < 128
  · exact .inl ⟨h, decodeL_ascii x r h⟩
  · exact .inr ⟨by omega, high h⟩

theorem decodeL_append {l t : Bs} (hne : l ≠ []) (h : (decodeL l).1 ≠ 65533) : decodeL (l ++ t) = decodeL l := by
  have hlen : 1 ≤ l.length := List.length_pos_iff.2 hne
  have g : ∀ k, k < l.length → ((l ++ t).getD k 0) = l.getD k 0 := by
    intro k hk
    simp [List.getD_eq_getElem?_getD, List.getElem?_append_left hk]
  rw [decodeL_N] at h ⊢
  rw [decodeL_N]
  have g0 := g 0 (by omega)
  rw [g0]
  have hn : (l ++ t).length = l.length + t.length := by simp
  generalize ((l ++ t).length) = m at *
  unfold decodeN at h ⊢
  by_cases c0 : (l.getD 0 0).toNat < 128
  · rw [if_pos c0, if_pos c0]
  rw [if_neg c0] at h ⊢
  rw [if_neg c0]
  by_cases c1 : 1 < l.length
  · have g1 := g 1 c1
    rw [g1]
    by_cases c2 : 2 < l.length
    · have g2 := g 2 c2
      rw [g2]
      by_cases c3 : 3 < l.length
      · have g3 := g 3 c3
        rw [g3]
        have m1 : 1 < m := by omega
        have m2 : 2 < m := by omega
        have m3 : 3 < m := by omega
        simp only [c1, c2, c3, m1, m2, m3]
      · have m1 : 1 < m := by omega
        have m2 : 2 < m := by omega
        simp only [c1, c2, c3, m1, m2] at h ⊢
        split at h
        · rename_i k; rw [if_pos k, if_pos k]
        · rename_i k
          rw [if_neg k] at ⊢
          rw [if_neg k]
          split at h
          · rename_i k2; rw [if_pos k2, if_pos k2]
          · simp at h
    · simp only [c1, c2] at h ⊢
      have m1 : 1 < m := by omega
      simp only [m1] at ⊢
      split at h
      · rename_i k; rw [if_pos k, if_pos k]
      · simp at h
  · simp only [c1] at h
    simp at h

def hexVal (x : UInt8) : Option Nat :=
  if 48 ≤ x.toNat ∧ x.toNat ≤ 57 then some (x.toNat - 48) else if 97 ≤ x.toNat ∧ x.toNat ≤ 102 then some (x.toNat - 87) else if 65 ≤ x.toNat ∧ x.toNat ≤ 70 then some (x.toNat - 55) else none
/-- The hexadecimal digits that stand first, and what is behind them. -/
def hexRun : Bs → List Nat × Bs
  | [] => ([], [])
  | x :: r => match hexVal x with
    | some v => (v :: (hexRun r).1, (hexRun r).2)
    | none => ([], x :: r)
def num16 (ds : List Nat) : Nat := ds.foldl (fun n d => 16 * n + d) 0
def uni (l : Bs) : Option (Int × Bs) :=
  match l with
  | x :: r => if x.toNat = 123 then
      (match (hexRun r).2 with
      | y :: t => if y.toNat = 125 ∧ 1 ≤ (hexRun r).1.length ∧ (hexRun r).1.length ≤ 6 ∧ Lib.validRune (num16 (hexRun r).1) = true then some ((num16 (hexRun r).1 : Nat), t) else none
      | [] => none) else none
  | [] => none
def hex2 (l : Bs) : Option (Int × Bs) :=
  match l with
  | x :: y :: r => match hexVal x, hexVal y with
    | some a, some b => if 16 * a + b ≤ 127 then some ((16 * a + b : Nat), r) else none
    | _, _ => none
  | _ => none
/-- An escape behind its backslash: the rune, and what is behind. -/
def esc (star : Bool) (l : Bs) : Option (Int × Bs) :=
  match l with
  | [] => none
  | x :: r =>
    if x.toNat = 110 then some (10, r) else if x.toNat = 114 then some (13, r) else if x.toNat = 116 then some (9, r) else if x.toNat = 92 then some (92, r)
    else if x.toNat = 48 then some (0, r) else if x.toNat = 39 then some (39, r) else if x.toNat = 34 then some (34, r)
    else if x.toNat = 120 then hex2 r else if x.toNat = 117 then uni r else if x.toNat = 42 then (if star then some (42, r) else none) else none

theorem hexRun_eq (l : Bs) : (hexRun l).1.length + (hexRun l).2.length = l.length := by
  induction l with
  | nil => rfl
  | cons x r ih =>
    unfold hexRun
    split
    · simp; omega
    · simp
theorem hex2_len {l : Bs} {c : Int} {t : Bs} (h : hex2 l = some (c, t)) : t.length < l.length := by
  unfold hex2 at h
  split at h
  · split at h
    · split at h
      · simp at h; rw [← h.2]; simp; omega
      · cases h
    · cases h
  · cases h
theorem uni_len {l : Bs} {c : Int} {t : Bs} (h : uni l = some (c, t)) : t.length < l.length := by
  unfold uni at h
  split at h
  · rename_i x r
    split at h
    · have := hexRun_eq r
      split at h
      · rename_i y t' e
        split at h
        · simp at h; rw [← h.2]; rw [e] at this; simp at this ⊢; omega
        · cases h
      · cases h
    · cases h
  · cases h
theorem esc_len {star : Bool} {l : Bs} {c : Int} {t : Bs} (h : esc star l = some (c, t)) : t.length < l.length := by
  unfold esc at h
  split at h
  · cases h
  · rename_i x r
    repeat' split at h
    all_goals first
      | (simp at h; done)
      | (simp at h; rw [← h.2]; simp; done)
      | (have := hex2_len h; simp; omega)
      | (have := uni_len h; simp; omega)

def prep (a : Bs) : Option (Bs × Bs) → Option (Bs × Bs)
  | some (b, r) => some (a ++ b, r)
  | none => none
theorem prep_prep (a b : Bs) (x : Option (Bs × Bs)) : prep a (prep b x) = prep (a ++ b) x := by
  cases x with
  | none => rfl
  | some x => simp [prep]
theorem prep_nil (x : Option (Bs × Bs)) : prep [] x = x := by cases x <;> rfl

def unqF (star : Bool) : Nat → Bs → Option (Bs × Bs)
  | 0, _ => none
  | _ + 1, [] => some ([], [])
  | f + 1, x :: r => if star = true ∧ x.toNat = 42 then some ([], x :: r) else if x.toNat = 92 then
      (match esc star r with
      | some (c, t) => prep (encodeRune c) (unqF star f t)
      | none => none)
    else prep ((x :: r).take (decodeL (x :: r)).2) (unqF star f ((x :: r).drop (decodeL (x :: r)).2))
def unq (star : Bool) (l : Bs) : Option (Bs × Bs) := unqF star (l.length + 1) l

theorem unqF_stable (star : Bool) : ∀ (f g : Nat) (l : Bs), l.length < f → l.length < g → unqF star f l = unqF star g l
  | 0, _, _, h, _ => by omega
  | _ + 1, 0, _, _, h => by omega
  | f + 1, g + 1, [], _, _ => rfl
  | f + 1, g + 1, x :: r, hf, hg => by
    simp only [List.length_cons] at hf hg
    unfold unqF
    split
    · rfl
    · split
      · cases e : esc star r with
        | none => rfl
        | some y =>
          obtain ⟨c, t⟩ := y
          have := esc_len e
          simp only
          rw [unqF_stable star f g t (by omega) (by omega)]
      · have hw := decodeL_width (x :: r)
        rw [unqF_stable star f g _ (by simp; omega) (by simp; omega)]

theorem unq_nil (star : Bool) : unq star [] = some ([], []) := rfl
theorem unq_star {x : UInt8} {r : Bs} (hx : x.toNat = 42) : unq true (x :: r) = some ([], x :: r) := by
  unfold unq unqF
  rw [if_pos ⟨rfl, hx⟩]
theorem unq_bad {star : Bool} {x : UInt8} {r : Bs} (hx : x.toNat = 92) (h : esc star r = none) : unq star (x :: r) = none := by
  unfold unq unqF
  rw [if_neg (by rintro ⟨_, e⟩; omega), if_pos hx, h]
theorem unq_esc {star : Bool} {x : UInt8} {r t : Bs} {c : Int} (hx : x.toNat = 92) (h : esc star r = some (c, t)) : unq star (x :: r) = prep (encodeRune c) (unq star t) := by
  have := esc_len h
  conv => lhs; unfold unq unqF
  rw [if_neg (by rintro ⟨_, e⟩; omega), if_pos hx, h]
  simp only [List.length_cons]
  unfold unq
  rw [unqF_stable star _ (t.length + 1) t (by omega) (by omega)]
theorem unq_plain {star : Bool} {x : UInt8} {r : Bs} (h1 : ¬ (star = true ∧ x.toNat = 42)) (h2 : x.toNat ≠ 92) : unq star (x :: r) = prep ((x :: r).take (decodeL (x :: r)).2) (unq star ((x :: r).drop (decodeL (x :: r)).2)) := by
  have hw := decodeL_width (x :: r)
  conv => lhs; unfold unq unqF
  rw [if_neg h1, if_neg h2]
  simp only [List.length_cons]
  unfold unq
  rw [unqF_stable star _ (((x :: r).drop (decodeL (x :: r)).2).length + 1) _ (by simp; omega) (by omega)]

end Go.Proofs.YthklhdeegmanbaaDoor.Esc

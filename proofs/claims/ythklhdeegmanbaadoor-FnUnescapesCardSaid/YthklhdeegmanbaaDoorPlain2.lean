/-
  What the reading of escapes answers, in plain lists of bytes: what goes before a star.
  Conditions: none.
-/
import Derived.Test.YthklhdeegmanbaaDoorPlain
namespace Go.Proofs.YthklhdeegmanbaaDoor.Esc
open Go Go.Lib

theorem hexVal_lt {x : UInt8} {v : Nat} (h : hexVal x = some v) : x.toNat < 128 ∧ v < 16 := by
  unfold hexVal at h
  repeat' split at h
  all_goals first | (cases h; done) | (simp at h; omega)
theorem hexRun_append : ∀ (l u : Bs), (hexRun l).2 ≠ [] → hexRun (l ++ u) = ((hexRun l).1, (hexRun l).2 ++ u)
  | [], u, h => absurd rfl h
  | x :: r, u, h => by
    show hexRun (x :: (r ++ u)) = _
    unfold hexRun at h ⊢
    split
    · rename_i v hv
      rw [hv] at h
      rw [hexRun_append r u h]
    · rfl
theorem hexRun_good {l : Bs} (h : Good l) : Good (hexRun l).2 := by
  induction l with
  | nil => exact h
  | cons x r ih =>
    unfold hexRun
    split
    · rename_i v hv
      exact ih (good_cons (hexVal_lt hv).1 h)
    · exact h
theorem hex2_append {l t : Bs} {c : Int} (u : Bs) (h : hex2 l = some (c, t)) : hex2 (l ++ u) = some (c, t ++ u) := by
  match l, h with
  | x :: y :: r, h =>
    unfold hex2 at h
    show hex2 (x :: y :: (r ++ u)) = _
    unfold hex2
    simp only at h ⊢
    split at h
    · split at h
      · rename_i e1 e2 e3
        rw [if_pos e3]
        simp at h ⊢
        exact ⟨h.1, by rw [h.2]⟩
      · cases h
    · cases h
theorem uni_append {l t : Bs} {c : Int} (u : Bs) (h : uni l = some (c, t)) : uni (l ++ u) = some (c, t ++ u) := by
  match l, h with
  | x :: r, h =>
    unfold uni at h
    show uni (x :: (r ++ u)) = _
    unfold uni
    simp only at h ⊢
    split at h
    · rename_i hx
      rw [if_pos hx]
      split at h
      · rename_i y t' e
        have e2 := hexRun_append r u (by rw [e]; simp)
        rw [e2, e]
        split at h
        · rename_i hc
          simp only [List.cons_append]
          rw [if_pos hc]
          simp at h ⊢
          exact ⟨h.1, by rw [h.2]⟩
        · cases h
      · cases h
    · cases h
theorem esc_append {star : Bool} {l t : Bs} {c : Int} (u : Bs) (h : esc star l = some (c, t)) : esc star (l ++ u) = some (c, t ++ u) := by
  match l, h with
  | x :: r, h =>
    unfold esc at h
    show esc star (x :: (r ++ u)) = _
    unfold esc
    simp only at h ⊢
    repeat' split at h
    all_goals first
      | (cases h; done)
      | (simp_all; done)
      | (rename_i hx; simp_all; exact hex2_append u h)
      | (rename_i hx; simp_all; exact uni_append u h)
theorem hex2_good {l t : Bs} {c : Int} (hg : Good l) (h : hex2 l = some (c, t)) : Good t := by
  match l, h with
  | x :: y :: r, h =>
    unfold hex2 at h
    simp only at h
    split at h
    · rename_i e1 e2
      split at h
      · simp at h
        rw [← h.2]
        exact good_cons (hexVal_lt e2).1 (good_cons (hexVal_lt e1).1 hg)
      · cases h
    · cases h
theorem uni_good {l t : Bs} {c : Int} (hg : Good l) (h : uni l = some (c, t)) : Good t := by
  match l, h with
  | x :: r, h =>
    unfold uni at h
    simp only at h
    split at h
    · rename_i hx
      have hg2 := hexRun_good (good_cons (by omega) hg)
      split at h
      · rename_i y t' e
        rw [e] at hg2
        split at h
        · rename_i hc
          simp at h
          rw [← h.2]
          exact good_cons (by omega) hg2
        · cases h
      · cases h
    · cases h
theorem esc_good {star : Bool} {l t : Bs} {c : Int} (hg : Good l) (h : esc star l = some (c, t)) : Good t := by
  match l, h with
  | x :: r, h =>
    unfold esc at h
    simp only at h
    repeat' split at h
    all_goals first
      | (cases h; done)
      | (simp at h; rw [← h.2]; exact good_cons (by omega) hg)
      | exact hex2_good (good_cons (by omega) hg) h
      | exact uni_good (good_cons (by omega) hg) h

/-- A text that is read to its end, and a star behind it. -/
theorem unq_before : ∀ (n : Nat) (a : Bs) (s : Bs) (x : UInt8) (b : Bs), a.length ≤ n → Good a → x.toNat = 42 → unq true a = some (s, []) → unq true (a ++ x :: b) = some (s, x :: b)
  | _, [], s, x, b, _, _, hx, h => by
    rw [unq_nil] at h
    simp at h
    subst h
    rw [List.nil_append, unq_star hx]
  | 0, _ :: _, _, _, _, h, _, _, _ => by simp at h
  | n + 1, y :: r, s, x, b, hn, hg, hx, h => by
    simp only [List.length_cons] at hn
    by_cases h1 : y.toNat = 42
    · rw [unq_star h1] at h
      simp at h
    · by_cases h2 : y.toNat = 92
      · cases e : esc true r with
        | none => rw [unq_bad h2 e] at h; cases h
        | some p =>
          obtain ⟨c, t⟩ := p
          rw [unq_esc h2 e] at h
          have hl := esc_len e
          cases e3 : unq true t with
          | none => rw [e3] at h; cases h
          | some q =>
            obtain ⟨s', t'⟩ := q
            rw [e3] at h
            simp [prep] at h
            obtain ⟨h3, h4⟩ := h
            subst h4
            have := unq_before n t s' x b (by omega) (esc_good (good_cons (by omega) hg) e) hx e3
            show unq true (y :: (r ++ x :: b)) = _
            rw [unq_esc h2 (esc_append _ e), this]
            simp [prep, h3]
      · have hne : y :: r ≠ [] := by simp
        obtain ⟨hd, hg2⟩ := good_drop hne hg
        have hw := decodeL_width (y :: r)
        have hle := decodeL_le (y :: r) hne
        rw [unq_plain (by rintro ⟨_, e⟩; exact h1 e) h2] at h
        cases e3 : unq true ((y :: r).drop (decodeL (y :: r)).2) with
        | none => rw [e3] at h; cases h
        | some q =>
          obtain ⟨s', t'⟩ := q
          rw [e3] at h
          simp [prep] at h
          obtain ⟨h3, h4⟩ := h
          subst h4
          have := unq_before n _ s' x b (by simp; omega) hg2 hx e3
          have ha := decodeL_append (t := x :: b) hne hd
          show unq true (y :: (r ++ x :: b)) = _
          rw [unq_plain (by rintro ⟨_, e⟩; exact h1 e) h2]
          have e5 : decodeL (y :: (r ++ x :: b)) = decodeL (y :: r) := ha
          rw [e5]
          have e6 : (y :: (r ++ x :: b)).drop (decodeL (y :: r)).2 = (y :: r).drop (decodeL (y :: r)).2 ++ x :: b := by
            rw [show y :: (r ++ x :: b) = (y :: r) ++ x :: b from rfl, List.drop_append_of_le_length hle]
          have e7 : (y :: (r ++ x :: b)).take (decodeL (y :: r)).2 = (y :: r).take (decodeL (y :: r)).2 := by
            rw [show y :: (r ++ x :: b) = (y :: r) ++ x :: b from rfl, List.take_append_of_le_length hle]
          rw [e6, e7, this]
          simp [prep, h3]
theorem encode_first {l : Bs} (hne : l ≠ []) (h : (decodeL l).1 ≠ 65533) : encodeRune ((decodeL l).1 : Int) = l.take (decodeL l).2 := encode_decode l hne (fun e => h e.1)

end Go.Proofs.YthklhdeegmanbaaDoor.Esc

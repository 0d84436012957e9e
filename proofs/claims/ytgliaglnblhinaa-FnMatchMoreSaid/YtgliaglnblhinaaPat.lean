/-
  Plain facts on patterns with wildcards: of no program: the greedy search finds a match just if there is one, and a wildcard more loses none.
  Conditions: none.
-/
namespace Go.Proofs.Ytgliaglnblhinaa.Pat

abbrev Bs := List UInt8
/-- A component: does it begin with a wildcard, and its text. -/
abbrev Comp := Bool × Bs

/-- What is behind a chunk at the beginning of a text. -/
def strip : Bs → Bs → Option Bs
  | [], s => some s
  | _ :: _, [] => none
  | c :: l, d :: s => if c = d then strip l s else none

theorem strip_iff (l : Bs) : ∀ (s t : Bs), strip l s = some t ↔ s = l ++ t := by
  induction l with
  | nil => intro s t; simp [strip]
  | cons c l ih =>
    intro s t
    cases s with
    | nil => simp [strip]
    | cons d s =>
      simp only [strip, List.cons_append, List.cons.injEq]
      by_cases h : c = d
      · rw [if_pos h, ih]; simp [h]
      · rw [if_neg h]; simp; intro e; exact absurd e.symm h

/-- Is a place good for a chunk: what is behind it there; of the last chunk: only nothing. -/
def cand (l : Bs) (last : Bool) (s : Bs) (j : Nat) : Option Bs :=
  match strip l (s.drop j) with
  | some t => if t = [] ∨ last = false then some t else none
  | none => none

def find (l : Bs) (last : Bool) (s : Bs) : Nat → Nat → Option Bs
  | 0, _ => none
  | n + 1, j => match cand l last s j with
    | some t => some t
    | none => find l last s n (j + 1)

/-- The greedy search. -/
def gm : List Comp → Bs → Bool
  | [], s => s.isEmpty
  | (w, l) :: cs, s =>
    if w && l.isEmpty then true else
      match cand l cs.isEmpty s 0 with
      | some t => gm cs t
      | none => if w then
          match find l cs.isEmpty s s.length 1 with
          | some t => gm cs t
          | none => false
        else false

/-- What a list of components means. -/
def SM : List Comp → Bs → Prop
  | [], s => s = []
  | (w, l) :: cs, s => ∃ f t, (w = true ∨ f = []) ∧ s = f ++ (l ++ t) ∧ SM cs t

def Norm : List Comp → Prop
  | [] => True
  | (_, l) :: cs => (l = [] → cs = []) ∧ (∀ c ∈ cs, c.1 = true) ∧ Norm cs

theorem cand_iff (l : Bs) (last : Bool) (s : Bs) (j : Nat) (t : Bs) : cand l last s j = some t ↔ s.drop j = l ++ t ∧ (t = [] ∨ last = false) := by
  unfold cand
  cases h : strip l (s.drop j) with
  | none =>
    simp only []
    constructor
    · intro e; cases e
    · rintro ⟨e, _⟩
      rw [(strip_iff l _ t).2 e] at h; cases h
  | some u =>
    have hu := (strip_iff l _ u).1 h
    simp only []
    constructor
    · intro e
      split at e
      · rename_i hc; injection e with e; subst e; exact ⟨hu, hc⟩
      · cases e
    · rintro ⟨e, hc⟩
      have : u = t := by rw [hu] at e; exact List.append_cancel_left e
      subst this
      rw [if_pos hc]

theorem find_some (l : Bs) (last : Bool) (s : Bs) : ∀ (n j : Nat) (t : Bs), find l last s n j = some t →
    ∃ i, j ≤ i ∧ i < j + n ∧ cand l last s i = some t ∧ ∀ i', j ≤ i' → i' < i → cand l last s i' = none := by
  intro n
  induction n with
  | zero => intro j t h; simp [find] at h
  | succ n ih =>
    intro j t h
    rw [find] at h
    cases hc : cand l last s j with
    | some u =>
      rw [hc] at h
      simp at h
      exact ⟨j, Nat.le_refl _, by omega, by rw [hc, h], fun i' h1 h2 => by omega⟩
    | none =>
      rw [hc] at h
      obtain ⟨i, h1, h2, h3, h4⟩ := ih (j + 1) t h
      refine ⟨i, by omega, by omega, h3, fun i' h5 h6 => ?_⟩
      by_cases e : i' = j
      · rw [e]; exact hc
      · exact h4 i' (by omega) h6

theorem find_none (l : Bs) (last : Bool) (s : Bs) : ∀ (n j : Nat), find l last s n j = none → ∀ i, j ≤ i → i < j + n → cand l last s i = none := by
  intro n
  induction n with
  | zero => intro j _ i h1 h2; omega
  | succ n ih =>
    intro j h i h1 h2
    rw [find] at h
    cases hc : cand l last s j with
    | some u => rw [hc] at h; simp at h
    | none =>
      rw [hc] at h
      by_cases e : i = j
      · rw [e]; exact hc
      · exact ih (j + 1) h i (by omega) (by omega)

/-- Behind a wildcard anything may stand ahead. -/
theorem SM_ext {l : Bs} {cs : List Comp} {t : Bs} (x : Bs) (h : SM ((true, l) :: cs) t) : SM ((true, l) :: cs) (x ++ t) := by
  obtain ⟨f, u, _, e, hu⟩ := h
  exact ⟨x ++ f, u, .inl rfl, by rw [e, List.append_assoc], hu⟩

theorem later {s l t u : Bs} {i j : Nat} (hi : s.drop i = l ++ t) (hj : s.drop j = l ++ u) (h : i ≤ j) (hl : j ≤ s.length) : ∃ x, t = x ++ u := by
  have e : s.drop j = (l ++ t).drop (j - i) := by rw [← hi, List.drop_drop]; congr 1; omega
  rw [hj] at e
  have hlen : (l ++ u).length = (l ++ t).length - (j - i) := by rw [e, List.length_drop]
  have hlt : (l ++ t).length = s.length - i := by rw [← hi, List.length_drop]
  simp only [List.length_append] at hlen hlt
  refine ⟨t.take (j - i), ?_⟩
  have e2 : ((l ++ t).drop (j - i)).drop l.length = u := by rw [← e]; simp
  rw [List.drop_drop, Nat.add_comm, ← List.drop_drop, List.drop_left] at e2
  rw [← e2, List.take_append_drop]

theorem gm_iff (cs : List Comp) : ∀ (s : Bs), Norm cs → (gm cs s = true ↔ SM cs s) := by
  induction cs with
  | nil => intro s _; simp [gm, SM]
  | cons c cs ih =>
    obtain ⟨w, l⟩ := c
    intro s hn
    obtain ⟨hn1, hn2, hn3⟩ := hn
    rw [gm]
    by_cases hw : (w && l.isEmpty) = true
    · rw [if_pos hw]
      simp at hw
      obtain ⟨rfl, rfl⟩ := hw
      obtain rfl := hn1 rfl
      simp only [true_iff]
      exact ⟨s, [], .inl rfl, by simp, rfl⟩
    · rw [if_neg hw]
      -- the earliest good place serves, if one does
      have key : ∀ (i : Nat) (t : Bs), cand l cs.isEmpty s i = some t → (w = true ∨ i = 0) → (∀ i', i' < i → cand l cs.isEmpty s i' = none) → (gm cs t = true ↔ SM ((w, l) :: cs) s) := by
        intro i t hc hwi hfirst
        obtain ⟨hd, hlast⟩ := (cand_iff _ _ _ _ _).1 hc
        rw [ih t hn3]
        constructor
        · intro h
          refine ⟨s.take i, t, ?_, by rw [← hd, List.take_append_drop], h⟩
          rcases hwi with h | h
          · exact .inl h
          · exact .inr (by rw [h]; rfl)
        · rintro ⟨f, u, hf, e, hu⟩
          have hj : s.drop f.length = l ++ u := by rw [e]; simp
          cases cs with
          | nil =>
            have : u = [] := hu
            subst this
            rcases hlast with h | h
            · rw [h]; rfl
            · simp at h
          | cons c2 cs2 =>
            obtain ⟨w2, l2⟩ := c2
            have hw2 : w2 = true := hn2 (w2, l2) (List.mem_cons_self ..)
            subst hw2
            have hcj : cand l false s f.length = some u := (cand_iff _ _ _ _ _).2 ⟨hj, .inr rfl⟩
            have hle : i ≤ f.length := by
              apply Nat.le_of_not_lt; intro hlt
              have := hfirst _ hlt
              simp only [List.isEmpty_cons] at this
              rw [hcj] at this; cases this
            obtain ⟨x, rfl⟩ := later hd hj hle (by rw [e]; simp)
            exact SM_ext x hu
      have none_ : (∀ i, (w = true ∨ i = 0) → i ≤ s.length → cand l cs.isEmpty s i = none) → ¬ SM ((w, l) :: cs) s := by
        rintro h ⟨f, u, hf, e, hu⟩
        have hj : s.drop f.length = l ++ u := by rw [e]; simp
        have hle : f.length ≤ s.length := by rw [e]; simp
        have hc := h f.length (by rcases hf with hf | hf; exact .inl hf; exact .inr (by rw [hf]; rfl)) hle
        cases cs with
        | nil =>
          have : u = [] := hu
          subst this
          simp only [List.isEmpty_nil] at hc
          rw [(cand_iff l true s f.length []).2 ⟨hj, .inl rfl⟩] at hc; cases hc
        | cons c2 cs2 =>
          simp only [List.isEmpty_cons] at hc
          rw [(cand_iff l false s f.length u).2 ⟨hj, .inr rfl⟩] at hc; cases hc
      cases h0 : cand l cs.isEmpty s 0 with
      | some t => exact key 0 t h0 (.inr rfl) (fun i' hi => by omega)
      | none =>
        simp only []
        cases w with
        | false =>
          simp only [Bool.false_eq_true, if_false, false_iff]
          exact none_ (fun i hi _ => by rcases hi with hi | hi; cases hi; rw [hi]; exact h0)
        | true =>
          simp only [if_true]
          cases hf : find l cs.isEmpty s s.length 1 with
          | some t =>
            obtain ⟨i, h1, h2, h3, h4⟩ := find_some _ _ _ _ _ _ hf
            exact key i t h3 (.inl rfl) (fun i' hi => by
              by_cases e : i' = 0
              · rw [e]; exact h0
              · exact h4 i' (by omega) hi)
          | none =>
            simp only [Bool.false_eq_true, false_iff]
            exact none_ (fun i _ hi => by
              by_cases e : i = 0
              · rw [e]; exact h0
              · exact find_none _ _ _ _ _ hf i (by omega) (by omega))

/-! The components of pieces. -/
theorem SM_append (cs : List Comp) : ∀ (ds : List Comp) (s : Bs), SM (cs ++ ds) s ↔ ∃ a t, s = a ++ t ∧ SM cs a ∧ SM ds t := by
  induction cs with
  | nil =>
    intro ds s
    constructor
    · intro h; exact ⟨[], s, rfl, rfl, h⟩
    · rintro ⟨a, t, rfl, rfl, ht⟩; simpa using ht
  | cons c cs ih =>
    obtain ⟨w, l⟩ := c
    intro ds s
    simp only [List.cons_append, SM, ih]
    constructor
    · rintro ⟨f, t, hf, e, a, u, rfl, ha, hu⟩
      exact ⟨f ++ (l ++ a), u, by rw [e]; simp, ⟨f, a, hf, rfl, ha⟩, hu⟩
    · rintro ⟨a, t, rfl, ⟨f, u, hf, rfl, hu⟩, ht⟩
      exact ⟨f, u ++ t, hf, by simp, u, t, rfl, hu, ht⟩

def wildL (L : Bs → Prop) : Bs → Prop := fun s => ∃ a f, s = a ++ f ∧ L a
def strL (L : Bs → Prop) (v : Bs) : Bs → Prop := fun s => ∃ a, s = a ++ v ∧ L a
def nilL : Bs → Prop := fun s => s = []
/-- What pieces mean. -/
def lang : List Bs → Bs → Prop
  | [] => nilL
  | p :: ps => ps.foldl (fun L q => strL (wildL L) q) (strL nilL p)

/-- Components: what a wildcard, and what a text does. -/
def wildC (cs : List Comp) : List Comp :=
  match cs.getLast? with
  | none => [(true, [])]
  | some c => if c.2 = [] then cs else cs ++ [(true, [])]
def strC (cs : List Comp) (v : Bs) : List Comp :=
  match cs.getLast? with
  | none => [(false, v)]
  | some c => cs.dropLast ++ [(c.1, c.2 ++ v)]

/-- What holds of the components at each step. -/
def Inv (cs : List Comp) : Prop :=
  cs = [] ∨ ∃ init c, cs = init ++ [c] ∧ (∀ d ∈ init, d.2 ≠ []) ∧ (∀ d ∈ (init ++ [c]).tail, d.1 = true) ∧ (c.2 = [] → c.1 = true)

theorem inv_norm_aux (init : List Comp) (c : Comp) : (∀ d ∈ init, d.2 ≠ []) → (∀ d ∈ (init ++ [c]).tail, d.1 = true) → Norm (init ++ [c]) := by
  induction init with
  | nil => intro _ _; exact ⟨fun _ => rfl, by simp, trivial⟩
  | cons x init ih =>
    obtain ⟨w, l⟩ := x
    intro h1 h2
    have h3 : ∀ d ∈ init ++ [c], d.1 = true := by simpa using h2
    refine ⟨fun e => absurd e (h1 (w, l) (List.mem_cons_self ..)), h3, ih (fun d hd => h1 d (List.mem_cons_of_mem _ hd)) (fun d hd => h3 d (List.mem_of_mem_tail hd))⟩

theorem inv_norm {cs : List Comp} (h : Inv cs) : Norm cs := by
  rcases h with rfl | ⟨init, c, rfl, h1, h2, _⟩
  · trivial
  · exact inv_norm_aux init c h1 h2

theorem SM_one (w : Bool) (l s : Bs) : SM [(w, l)] s ↔ ∃ f, (w = true ∨ f = []) ∧ s = f ++ l := by
  simp only [SM]
  constructor
  · rintro ⟨f, t, hf, e, rfl⟩; exact ⟨f, hf, by simpa using e⟩
  · rintro ⟨f, hf, e⟩; exact ⟨f, [], hf, by simpa using e, rfl⟩

theorem wild_inv {cs : List Comp} (h : Inv cs) : Inv (wildC cs) := by
  rcases h with rfl | ⟨init, c, rfl, h1, h2, h3⟩
  · exact .inr ⟨[], (true, []), rfl, by simp, by simp, fun _ => rfl⟩
  · simp only [wildC, List.getLast?_append, List.getLast?_singleton, Option.some_or]
    by_cases hc : c.2 = []
    · rw [if_pos hc]; exact .inr ⟨init, c, rfl, h1, h2, h3⟩
    · rw [if_neg hc]
      refine .inr ⟨init ++ [c], (true, []), rfl, ?_, ?_, fun _ => rfl⟩
      · intro d hd
        rcases List.mem_append.1 hd with hd | hd
        · exact h1 d hd
        · simp at hd; rw [hd]; exact hc
      · intro d hd
        have hne : init ++ [c] ≠ [] := by simp
        rw [List.tail_append_of_ne_nil hne] at hd
        rcases List.mem_append.1 hd with hd | hd
        · exact h2 d hd
        · simp at hd; rw [hd]

theorem str_inv {cs : List Comp} (h : Inv cs) (v : Bs) (hv : v ≠ []) : Inv (strC cs v) := by
  rcases h with rfl | ⟨init, c, rfl, h1, h2, h3⟩
  · exact .inr ⟨[], (false, v), rfl, by simp, by simp, fun e => absurd e hv⟩
  · simp only [strC, List.getLast?_append, List.getLast?_singleton, Option.some_or, List.dropLast_concat]
    refine .inr ⟨init, (c.1, c.2 ++ v), rfl, h1, ?_, fun e => ?_⟩
    · cases init with
      | nil => simp
      | cons x init =>
        simp only [List.cons_append, List.tail_cons] at h2 ⊢
        intro d hd
        rcases List.mem_append.1 hd with hd | hd
        · exact h2 d (List.mem_append_left _ hd)
        · simp at hd; rw [hd]; exact h2 c (by simp)
    · exact absurd (List.append_eq_nil_iff.1 e).2 hv

theorem wild_SM {cs : List Comp} (h : Inv cs) (s : Bs) : SM (wildC cs) s ↔ wildL (SM cs) s := by
  rcases h with rfl | ⟨init, c, rfl, h1, h2, h3⟩
  · simp only [wildC, List.getLast?_nil, SM_one, wildL, SM]
    constructor
    · intro _; exact ⟨[], s, by simp, rfl⟩
    · intro _; exact ⟨s, .inl trivial, by simp⟩
  · simp only [wildC, List.getLast?_append, List.getLast?_singleton, Option.some_or]
    by_cases hc : c.2 = []
    · rw [if_pos hc]
      constructor
      · intro h; exact ⟨s, [], by simp, h⟩
      · rintro ⟨a, f, rfl, ha⟩
        obtain ⟨w, l⟩ := c
        simp only at hc
        subst hc
        have hw : w = true := h3 rfl
        subst hw
        rw [SM_append] at ha ⊢
        obtain ⟨b, t, rfl, hb, ht⟩ := ha
        exact ⟨b, t ++ f, by simp, hb, (SM_one _ _ _).2 ⟨t ++ f, .inl rfl, by simp⟩⟩
    · rw [if_neg hc, SM_append]
      constructor
      · rintro ⟨a, t, rfl, ha, _⟩; exact ⟨a, t, rfl, ha⟩
      · rintro ⟨a, t, rfl, ha⟩; exact ⟨a, t, rfl, ha, (SM_one _ _ _).2 ⟨t, .inl rfl, by simp⟩⟩

theorem str_SM {cs : List Comp} (h : Inv cs) (v s : Bs) : SM (strC cs v) s ↔ strL (SM cs) v s := by
  rcases h with rfl | ⟨init, c, rfl, h1, h2, h3⟩
  · simp only [strC, List.getLast?_nil, SM_one, strL, SM]
    constructor
    · rintro ⟨f, hf, rfl⟩
      rcases hf with hf | hf
      · cases hf
      · exact ⟨f, rfl, hf⟩
    · rintro ⟨a, rfl, rfl⟩; exact ⟨[], .inr rfl, rfl⟩
  · obtain ⟨w, l⟩ := c
    simp only [strC, List.getLast?_append, List.getLast?_singleton, Option.some_or, List.dropLast_concat, strL]
    constructor
    · intro h
      rw [SM_append] at h
      obtain ⟨a, t, rfl, ha, ht⟩ := h
      obtain ⟨f, hf, rfl⟩ := (SM_one _ _ _).1 ht
      exact ⟨a ++ (f ++ l), by simp, (SM_append _ _ _).2 ⟨a, f ++ l, rfl, ha, (SM_one _ _ _).2 ⟨f, hf, rfl⟩⟩⟩
    · rintro ⟨b, rfl, hb⟩
      rw [SM_append] at hb
      obtain ⟨a, t, rfl, ha, ht⟩ := hb
      obtain ⟨f, hf, rfl⟩ := (SM_one _ _ _).1 ht
      exact (SM_append _ _ _).2 ⟨a, f ++ (l ++ v), by simp, ha, (SM_one _ _ _).2 ⟨f, hf, rfl⟩⟩

/-- The items that the pieces make: none stands for a wildcard. -/
def tailItems (p : Bs) : List (Option Bs) := none :: (if p = [] then [] else [some p])
def headItems (p : Bs) : List (Option Bs) := if p = [] then [] else [some p]
def items : List Bs → List (Option Bs)
  | [] => []
  | p :: ps => headItems p ++ ps.flatMap tailItems
def stepC (cs : List Comp) : Option Bs → List Comp
  | none => wildC cs
  | some v => strC cs v
def comps (l : List Bs) : List Comp := (items l).foldl stepC []

theorem strL_nil (L : Bs → Prop) (s : Bs) : strL L [] s ↔ L s := by
  constructor
  · rintro ⟨a, rfl, h⟩; simpa using h
  · intro h; exact ⟨s, by simp, h⟩

theorem tail_step {cs : List Comp} {L : Bs → Prop} (h : Inv cs) (hL : ∀ s, SM cs s ↔ L s) (p : Bs) :
    Inv ((tailItems p).foldl stepC cs) ∧ ∀ s, SM ((tailItems p).foldl stepC cs) s ↔ strL (wildL L) p s := by
  have hw := wild_inv h
  have hwL : ∀ s, SM (wildC cs) s ↔ wildL L s := fun s => by
    rw [wild_SM h]
    constructor
    · rintro ⟨a, f, e, ha⟩; exact ⟨a, f, e, (hL a).1 ha⟩
    · rintro ⟨a, f, e, ha⟩; exact ⟨a, f, e, (hL a).2 ha⟩
  by_cases hp : p = []
  · subst hp
    simp only [tailItems, if_true, List.foldl_cons, List.foldl_nil, stepC]
    exact ⟨hw, fun s => by rw [hwL, strL_nil]⟩
  · simp only [tailItems, if_neg hp, List.foldl_cons, List.foldl_nil, stepC]
    refine ⟨str_inv hw p hp, fun s => ?_⟩
    rw [str_SM hw]
    constructor
    · rintro ⟨a, e, ha⟩; exact ⟨a, e, (hwL a).1 ha⟩
    · rintro ⟨a, e, ha⟩; exact ⟨a, e, (hwL a).2 ha⟩

theorem tails (ps : List Bs) : ∀ {cs : List Comp} {L : Bs → Prop}, Inv cs → (∀ s, SM cs s ↔ L s) →
    Inv ((ps.flatMap tailItems).foldl stepC cs) ∧ ∀ s, SM ((ps.flatMap tailItems).foldl stepC cs) s ↔ ps.foldl (fun L q => strL (wildL L) q) L s := by
  induction ps with
  | nil => intro cs L h hL; exact ⟨h, hL⟩
  | cons p ps ih =>
    intro cs L h hL
    obtain ⟨h1, h2⟩ := tail_step h hL p
    simp only [List.flatMap_cons, List.foldl_append, List.foldl_cons]
    exact ih h1 h2

theorem comps_ok (l : List Bs) (hl : l ≠ []) : Inv (comps l) ∧ ∀ s, SM (comps l) s ↔ lang l s := by
  cases l with
  | nil => exact absurd rfl hl
  | cons p ps =>
    simp only [comps, items, List.foldl_append, lang]
    refine tails ps ?_ ?_
    · by_cases hp : p = []
      · simp only [headItems, if_pos hp]; exact .inl rfl
      · simp only [headItems, if_neg hp, List.foldl_cons, List.foldl_nil, stepC]; exact str_inv (.inl rfl) p hp
    · intro s
      by_cases hp : p = []
      · subst hp
        simp only [headItems, if_true, List.foldl_nil, strL_nil]
        exact Iff.rfl
      · simp only [headItems, if_neg hp, List.foldl_cons, List.foldl_nil, stepC]
        rw [str_SM (.inl rfl)]
        exact Iff.rfl

/-- The greedy search over the components of pieces. -/
theorem gm_lang (l : List Bs) (hl : l ≠ []) (s : Bs) : gm (comps l) s = true ↔ lang l s := by
  obtain ⟨h1, h2⟩ := comps_ok l hl
  rw [gm_iff _ s (inv_norm h1), h2]

/-! A wildcard more. -/
theorem fold_mono (ps : List Bs) : ∀ {L M : Bs → Prop}, (∀ s, L s → M s) → ∀ s, ps.foldl (fun L q => strL (wildL L) q) L s → ps.foldl (fun L q => strL (wildL L) q) M s := by
  induction ps with
  | nil => intro L M h s hs; exact h s hs
  | cons p ps ih =>
    intro L M h s hs
    refine ih (L := strL (wildL L) p) (M := strL (wildL M) p) ?_ s hs
    rintro u ⟨a, e, b, f, e2, hb⟩
    exact ⟨a, e, b, f, e2, h b hb⟩

theorem more_step {L : Bs → Prop} (p : Bs) (c : Nat) (s : Bs) (h : strL L p s) : strL (wildL (strL L (p.take c))) (p.drop c) s := by
  obtain ⟨a, rfl, ha⟩ := h
  refine ⟨a ++ p.take c, by rw [List.append_assoc, List.take_append_drop], a ++ p.take c, [], by simp, a, rfl, ha⟩

theorem lang_more (A B : List Bs) (p : Bs) (c : Nat) (s : Bs) (h : lang (A ++ p :: B) s) : lang (A ++ p.take c :: p.drop c :: B) s := by
  cases A with
  | nil =>
    simp only [List.nil_append, lang, List.foldl_cons] at h ⊢
    exact fold_mono B (fun u hu => more_step p c u hu) s h
  | cons a A =>
    simp only [List.cons_append, lang, List.foldl_append, List.foldl_cons] at h ⊢
    exact fold_mono B (fun u hu => more_step p c u hu) s h

theorem lang_two (s : Bs) : lang [[], []] s := by
  simp only [lang, List.foldl_cons, List.foldl_nil]
  exact ⟨s, by simp, [], s, by simp, [], rfl, rfl⟩

/-- ████ The plain law. -/
theorem law (A B : List Bs) (p : Bs) (c : Nat) (s : Bs) : gm (comps [[], []]) s = true ∧ (gm (comps (A ++ p :: B)) s = true → gm (comps (A ++ p.take c :: p.drop c :: B)) s = true) := by
  refine ⟨(gm_lang _ (by simp) s).2 (lang_two s), fun h => ?_⟩
  exact (gm_lang _ (by simp) s).2 (lang_more A B p c s ((gm_lang _ (by simp) s).1 h))

end Go.Proofs.Ytgliaglnblhinaa.Pat

/-
  Plain facts on digits and units of durations: of no program.
  Conditions: none.
-/
namespace Go.Proofs.YtgliaglnblhinaaDoor

/-- The number that a list of digits writes. -/
def num (l : List UInt8) : Nat := l.foldl (fun v c => v * 10 + (c.toNat - 48)) 0
def Digs (l : List UInt8) : Prop := ∀ c, c ∈ l → 48 ≤ c.toNat ∧ c.toNat ≤ 57

theorem num_from (l : List UInt8) : ∀ v : Nat, l.foldl (fun v c => v * 10 + (c.toNat - 48)) v = v * 10 ^ l.length + num l := by
  induction l with
  | nil => intro v; simp [num]
  | cons c l ih =>
    intro v
    have e1 := ih (v * 10 + (c.toNat - 48))
    have e2 := ih (0 * 10 + (c.toNat - 48))
    simp only [num, List.foldl_cons, List.length_cons] at *
    rw [e1, e2, Nat.pow_succ, Nat.add_mul]
    have : v * 10 * 10 ^ l.length = v * (10 ^ l.length * 10) := by rw [Nat.mul_assoc, Nat.mul_comm 10]
    rw [Nat.add_mul, this, Nat.zero_mul, Nat.zero_add]
    omega

theorem num_cons (c : UInt8) (l : List UInt8) : num (c :: l) = (c.toNat - 48) * 10 ^ l.length + num l := by
  have := num_from l (0 * 10 + (c.toNat - 48))
  simp only [num, List.foldl_cons] at *
  rw [this]; simp

/-- The byte of a digit. -/
def dbyte (n : Nat) : UInt8 := UInt8.ofNat (48 + n % 10)
theorem dbyte_toNat (n : Nat) : (dbyte n).toNat = 48 + n % 10 := by
  unfold dbyte
  rw [UInt8.toNat_ofNat']
  omega

/-- What holds in each round of the function digits: n0 is written by what is left, n, and by what stands already. -/
def DRel (n0 w n : Nat) (l : List UInt8) : Prop :=
  Digs l ∧ n * 10 ^ l.length + num l = n0 ∧ l.length ≤ max 20 w ∧ n < 10 ^ (20 - l.length)

theorem drel_start (n0 w : Nat) (h : n0 < 18446744073709551616) : DRel n0 w n0 [] := by
  refine ⟨by intro c hc; simp at hc, by simp [num], by simp, ?_⟩
  simp only [List.length_nil, Nat.sub_zero]
  omega

theorem drel_step (n0 w n : Nat) (l : List UInt8) (h : DRel n0 w n l) (hc : 0 < n ∨ l.length < w) : DRel n0 w (n / 10) (dbyte n :: l) := by
  obtain ⟨h1, h2, h3, h4⟩ := h
  refine ⟨?_, ?_, ?_, ?_⟩
  · intro c hc
    rcases List.mem_cons.1 hc with rfl | hc
    · rw [dbyte_toNat]; omega
    · exact h1 c hc
  · rw [num_cons, dbyte_toNat, List.length_cons, Nat.pow_succ]
    have e : n = n / 10 * 10 + n % 10 := by omega
    have e3 : n * 10 ^ l.length = n / 10 * (10 ^ l.length * 10) + n % 10 * 10 ^ l.length := by
      conv => lhs; rw [e]
      rw [Nat.add_mul, Nat.mul_assoc, Nat.mul_comm 10]
    have e4 : 48 + n % 10 - 48 = n % 10 := by omega
    rw [e4]; omega
  · simp only [List.length_cons]
    by_cases hn : 0 < n
    · have : l.length < 20 := by
        apply Nat.lt_of_not_le; intro hl
        have : 20 - l.length = 0 := by omega
        rw [this] at h4; simp at h4; omega
      omega
    · omega
  · simp only [List.length_cons]
    by_cases hl : l.length < 20
    · have e : 20 - l.length = (20 - (l.length + 1)) + 1 := by omega
      rw [e, Nat.pow_succ] at h4
      omega
    · have : 20 - l.length = 0 := by omega
      rw [this] at h4
      have : n = 0 := by simpa using h4
      subst this
      have : 0 < 10 ^ (20 - (l.length + 1)) := Nat.pow_pos (by decide)
      omega

theorem drel_le (n0 w n : Nat) (l : List UInt8) (h : DRel n0 w n l) : n ≤ n0 := by
  obtain ⟨_, h2, _, _⟩ := h
  have := Nat.le_mul_of_pos_right n (show 0 < 10 ^ l.length from Nat.pow_pos (by decide))
  omega

theorem dbyte_eq (n : Nat) : 48 + UInt8.ofNat (n % 10) = dbyte n := by
  apply UInt8.toNat_inj.1
  rw [UInt8.toNat_add, dbyte_toNat, UInt8.toNat_ofNat']
  simp
  omega

theorem drel_end (n0 w : Nat) (l : List UInt8) (h : DRel n0 w 0 l) : Digs l ∧ num l = n0 ∧ l.length ≤ max 20 w := by
  obtain ⟨h1, h2, h3, _⟩ := h
  exact ⟨h1, by simpa using h2, h3⟩

/-- The units' names and sizes. -/
def nm : Nat → List UInt8 | 0 => [100] | 1 => [104] | 2 => [109] | 3 => [115] | _ => [109, 115]
def sz : Nat → Nat | 0 => 86400000 | 1 => 3600000 | 2 => 60000 | 3 => 1000 | _ => 1

/-- The rest of a text, from a state on, is read to its end, and comes to f. -/
inductive Good : List UInt8 → Nat → Nat → Nat → Bool → Nat → Prop
  | fin (u t : Nat) : u ≤ 5 → Good [] u t 0 false t
  | dig (c : UInt8) (r : List UInt8) (u t v f : Nat) (h : Bool) : 48 ≤ c.toNat → c.toNat ≤ 57 → u < 5 → v * 10 + (c.toNat - 48) ≤ 9223372036854775807 →
      Good r u t (v * 10 + (c.toNat - 48)) true f → Good (c :: r) u t v h f
  | unit (k : Nat) (r : List UInt8) (u t v f : Nat) : k < 5 → u ≤ k → v * sz k + t ≤ 9223372036854775807 → (k = 2 → r.head? ≠ some 115) →
      Good r (k + 1) (t + v * sz k) 0 false f → Good (nm k ++ r) u t v true f

theorem good_digits (l : List UInt8) : ∀ (r : List UInt8) (u t v f : Nat) (h : Bool), Digs l → u < 5 → v * 10 ^ l.length + num l ≤ 9223372036854775807 →
    l ≠ [] → Good r u t (v * 10 ^ l.length + num l) true f → Good (l ++ r) u t v h f := by
  induction l with
  | nil => intro r u t v f h _ _ _ hn; exact absurd rfl hn
  | cons c l ih =>
    intro r u t v f h hd hu hb _ hg
    have e : v * 10 ^ (c :: l).length + num (c :: l) = (v * 10 + (c.toNat - 48)) * 10 ^ l.length + num l := by
      rw [num_cons, List.length_cons, Nat.pow_succ, Nat.add_mul, Nat.mul_assoc, Nat.mul_comm 10]
      omega
    rw [e] at hb hg
    have hp : 0 < 10 ^ l.length := Nat.pow_pos (by decide)
    have hc := hd c (List.mem_cons_self ..)
    have hb' : v * 10 + (c.toNat - 48) ≤ 9223372036854775807 := by
      have := Nat.le_mul_of_pos_right (v * 10 + (c.toNat - 48)) hp
      omega
    refine .dig c (l ++ r) u t v f h hc.1 hc.2 hu hb' ?_
    by_cases hl : l = []
    · subst hl; simpa [num] using hg
    · exact ih r u t _ f true (fun x hx => hd x (List.mem_cons_of_mem _ hx)) hu hb hl hg

/-- Parts of a text, each a unit and its digits, from the unit u on up to the unit c. -/
def Chain : Nat → Nat → List (Nat × List UInt8) → Prop
  | u, c, [] => u ≤ c
  | u, c, (k, d) :: r => u ≤ k ∧ k < 5 ∧ Digs d ∧ d ≠ [] ∧ num d < 4294967296 ∧ Chain (k + 1) c r
def text : List (Nat × List UInt8) → List UInt8
  | [] => []
  | (k, d) :: r => d ++ (nm k ++ text r)
def total : List (Nat × List UInt8) → Nat
  | [] => 0
  | (k, d) :: r => num d * sz k + total r

theorem chain_mono (ps : List (Nat × List UInt8)) : ∀ {u c c' : Nat}, Chain u c ps → c ≤ c' → Chain u c' ps := by
  induction ps with
  | nil => intro u c c' h hc; exact Nat.le_trans h hc
  | cons x r ih => intro u c c' h hc; obtain ⟨h1, h2, h3, h4, h5, h6⟩ := h; exact ⟨h1, h2, h3, h4, h5, ih h6 hc⟩

theorem chain_snoc (ps : List (Nat × List UInt8)) : ∀ {u c k : Nat} {d : List UInt8}, Chain u c ps → c ≤ k → k < 5 → Digs d → d ≠ [] → num d < 4294967296 →
    Chain u (k + 1) (ps ++ [(k, d)]) := by
  induction ps with
  | nil => intro u c k d h hc hk hd hn hm; exact ⟨Nat.le_trans h hc, hk, hd, hn, hm, Nat.le_refl _⟩
  | cons x r ih => intro u c k d h hc hk hd hn hm; obtain ⟨h1, h2, h3, h4, h5, h6⟩ := h; exact ⟨h1, h2, h3, h4, h5, ih h6 hc hk hd hn hm⟩

theorem text_snoc (ps : List (Nat × List UInt8)) (k : Nat) (d : List UInt8) : text (ps ++ [(k, d)]) = text ps ++ (d ++ nm k) := by
  induction ps with
  | nil => simp [text]
  | cons x r ih => obtain ⟨a, b⟩ := x; simp [text, ih]

theorem total_snoc (ps : List (Nat × List UInt8)) (k : Nat) (d : List UInt8) : total (ps ++ [(k, d)]) = total ps + num d * sz k := by
  induction ps with
  | nil => simp [total]
  | cons x r ih => obtain ⟨a, b⟩ := x; simp [total, ih]; omega

def rest : Nat → Nat | 0 => 90061001 | 1 => 3661001 | 2 => 61001 | 3 => 1001 | 4 => 1 | _ => 0
theorem rest_step (u k : Nat) (h : u ≤ k) (hk : k < 5) : sz k + rest (k + 1) ≤ rest u := by
  have hk' : k = 0 ∨ k = 1 ∨ k = 2 ∨ k = 3 ∨ k = 4 := by omega
  have hu' : u = 0 ∨ u = 1 ∨ u = 2 ∨ u = 3 ∨ u = 4 := by omega
  rcases hk' with rfl | rfl | rfl | rfl | rfl <;> rcases hu' with rfl | rfl | rfl | rfl | rfl <;> first | omega | (simp [sz, rest])

theorem total_le (ps : List (Nat × List UInt8)) : ∀ {u c : Nat}, Chain u c ps → total ps ≤ 4294967296 * rest u := by
  induction ps with
  | nil => intro u c _; simp [total]
  | cons x r ih =>
    intro u c h
    obtain ⟨k, d⟩ := x
    obtain ⟨h1, h2, _, _, h5, h6⟩ := h
    have := ih h6
    have hs := rest_step u k h1 h2
    have hm : num d * sz k ≤ 4294967296 * sz k := Nat.mul_le_mul_right _ (by omega)
    have hs' : 4294967296 * (sz k + rest (k + 1)) ≤ 4294967296 * rest u := Nat.mul_le_mul_left _ hs
    rw [Nat.mul_add] at hs'
    simp only [total]
    omega

theorem total_bound {ps : List (Nat × List UInt8)} {c : Nat} (h : Chain 0 c ps) : total ps ≤ 386809053940023296 := by
  have := total_le ps h
  simp only [rest] at this
  omega

theorem text_head (ps : List (Nat × List UInt8)) {u c : Nat} (h : Chain u c ps) : (text ps).head? ≠ some 115 := by
  cases ps with
  | nil => simp [text]
  | cons x r =>
    obtain ⟨k, d⟩ := x
    obtain ⟨_, _, h3, h4, _, _⟩ := h
    cases d with
    | nil => exact absurd rfl h4
    | cons c d =>
      have := h3 c (List.mem_cons_self ..)
      simp only [text, List.cons_append, List.head?_cons]
      intro e
      obtain rfl : c = 115 := by simpa using e
      simp at this

theorem good_parts (ps : List (Nat × List UInt8)) : ∀ (u t : Nat), Chain u 5 ps → t + total ps ≤ 9223372036854775807 → Good (text ps) u t 0 false (t + total ps) := by
  induction ps with
  | nil => intro u t h _; simp only [text, total, Nat.add_zero]; exact .fin u t h
  | cons x r ih =>
    intro u t h hb
    obtain ⟨k, d⟩ := x
    obtain ⟨h1, h2, h3, h4, h5, h6⟩ := h
    simp only [total] at hb
    simp only [text, total]
    refine good_digits d _ u t 0 _ false h3 (by omega) (by omega) h4 ?_
    rw [Nat.zero_mul, Nat.zero_add]
    refine .unit k _ u t _ _ h2 h1 (by omega) (fun _ => text_head r h6) ?_
    have := ih (k + 1) (t + num d * sz k) h6 (by omega)
    rw [Nat.add_assoc] at this
    exact this

/-- A text of one unit alone. -/
theorem good_one (k : Nat) (d : List UInt8) (hk : k < 5) (hd : Digs d) (hn : d ≠ []) (hm : num d < 4294967296) : Good (d ++ nm k) 0 0 0 false (num d * sz k) := by
  have hc : Chain 0 5 [(k, d)] := ⟨Nat.zero_le _, hk, hd, hn, hm, hk⟩
  have := good_parts [(k, d)] 0 0 hc (by have := total_bound hc; omega)
  simpa [text, total] using this

end Go.Proofs.YtgliaglnblhinaaDoor

/-
  Plain facts on digits and units of durations: of no program.
  Conditions: none.
-/
namespace Go.Proofs.YtlcalmdjgllkcaaDoor

/-- The number that a list of digits writes. -/
def num (l : List UInt8) : Nat := l.foldl (fun v c => v * 10 + (c.toNat - 48)) 0
def Digs (l : List UInt8) : Prop := ∀ c, c ∈ l → 48 ≤ c.toNat ∧ c.toNat ≤ 57

theorem num_from (l : List UInt8) : ∀ v : Nat, l.foldl (fun v c => v * 10 + (c.toNat - 48)) v = v * 10 ^ l.length + num l := by
  induction l with
  | nil => intro v; simp [num]
  | cons c l ih =>
    intro v
    have e1 := ih (v * 10 + (c.toNat - 48))
    have e2 := ih (0 * 10 + (c.toNat - 48))
    simp only [num, List.foldl_cons, List.length_cons] at *
    rw [e1, e2, Nat.pow_succ, Nat.add_mul]
    have : v * 10 * 10 ^ l.length = v * (10 ^ l.length * 10) := by rw [Nat.mul_assoc, Nat.mul_comm 10]
    rw [Nat.add_mul, this, Nat.zero_mul, Nat.zero_add]
    omega

theorem num_cons (c : UInt8) (l : List UInt8) : num (c :: l) = (c.toNat - 48) * 10 ^ l.length + num l := by
  have := num_from l (0 * 10 + (c.toNat - 48))
  simp only [num, List.foldl_cons] at *
  rw [this]; simp

/-- The byte of a digit. -/
def dbyte (n : Nat) : UInt8 := UInt8.ofNat (48 + n % 10)
theorem dbyte_toNat (n : Nat) : (dbyte n).toNat = 48 + n % 10 := by
  unfold dbyte
  rw [UInt8.toNat_ofNat']
  omega

/-- What holds in each round of the function digits: n0 is written by what is left, n, and by what stands already. -/
def DRel (n0 w n : Nat) (l : List UInt8) : Prop :=
  Digs l ∧ n * 10 ^ l.length + num l = n0 ∧ l.length ≤ max 20 w ∧ n < 10 ^ (20 - l.length)

theorem drel_start (n0 w : Nat) (h : n0 < 18446744073709551616) : DRel n0 w n0 [] := by
  refine ⟨by intro c hc; simp at hc, by simp [num], by simp, ?_⟩
  simp only [List.length_nil, Nat.sub_zero]
  omega

theorem drel_step (n0 w n : Nat) (l : List UInt8) (h : DRel n0 w n l) (hc : 0 < n ∨ l.length < w) : DRel n0 w (n / 10) (dbyte n :: l) := by
  obtain ⟨h1, h2, h3, h4⟩ := h
  refine ⟨?_, ?_, ?_, ?_⟩
  · intro c hc
    rcases List.mem_cons.1 hc with rfl | hc
    · rw [dbyte_toNat]; omega
    · exact h1 c hc
  · rw [num_cons, dbyte_toNat, List.length_cons, Nat.pow_succ]
    have e : n = n / 10 * 10 + n % 10 := by omega
    have e3 : n * 10 ^ l.length = n / 10 * (10 ^ l.length * 10) + n % 10 * 10 ^ l.length := by
      conv => lhs; rw [e]
      rw [Nat.add_mul, Nat.mul_assoc, Nat.mul_comm 10]
    have e4 : 48 + n % 10 - 48 = n % 10 := by omega
    rw [e4]; omega
  · simp only [List.length_cons]
    by_cases hn : 0 < n
    · have : l.length < 20 := by
        apply Nat.lt_of_not_le; intro hl
        have : 20 - l.length = 0 := by omega
        rw [this] at h4; simp at h4; omega
      omega
    · omega
  · simp only [List.length_cons]
    by_cases hl : l.length < 20
    · have e : 20 - l.length = (20 - (l.length + 1)) + 1 := by omega
      rw [e, Nat.pow_succ] at h4
      omega
    · have : 20 - l.length = 0 := by omega
      rw [this] at h4
      have : n = 0 := by simpa using h4
      subst this
      have : 0 < 10 ^ (20 - (l.length + 1)) := Nat.pow_pos (by decide)
      omega

theorem drel_le (n0 w n : Nat) (l : List UInt8) (h : DRel n0 w n l) : n ≤ n0 := by
  obtain ⟨_, h2, _, _⟩ := h
  have := Nat.le_mul_of_pos_right n (show 0 < 10 ^ l.length from Nat.pow_pos (by decide))
  omega

theorem dbyte_eq (n : Nat) : 48 + UInt8.ofNat (n % 10) = dbyte n := by
  apply UInt8.toNat_inj.1
  rw [UInt8.toNat_add, dbyte_toNat, UInt8.toNat_ofNat']
  simp
  omega

theorem drel_end (n0 w : Nat) (l : List UInt8) (h : DRel n0 w 0 l) : Digs l ∧ num l = n0 ∧ l.length ≤ max 20 w := by
  obtain ⟨h1, h2, h3, _⟩ := h
  exact ⟨h1, by simpa using h2, h3⟩


end Go.Proofs.YtlcalmdjgllkcaaDoor

/-
  The reference's escapeSize, walked.
  Conditions: sizes.
-/
import Derived.Test.YthklhdeegmanbaaDoorSpec
namespace Go.Proofs.YthklhdeegmanbaaDoor.Esc
open Go Go.ChangeShapes Go.WideShapes Go.ChangeAt Go.RowKit

def hexSize (r : Bs) : Nat :=
  match r with
  | a :: b :: _ => if (hexVal a).isSome = true ∧ (hexVal b).isSome = true then 3 else 0
  | _ => 0
def escSize (l : Bs) : Nat :=
  match l with
  | [] => 0
  | x :: r => if x.toNat = 110 ∨ x.toNat = 114 ∨ x.toNat = 116 ∨ x.toNat = 92 ∨ x.toNat = 48 ∨ x.toNat = 39 ∨ x.toNat = 34 ∨ x.toNat = 42 then 1 else if x.toNat = 120 then hexSize r else if x.toNat = 117 then long r else 0

theorem size_simple {x : UInt8} {r : Bs} (h : x.toNat = 110 ∨ x.toNat = 114 ∨ x.toNat = 116 ∨ x.toNat = 92 ∨ x.toNat = 48 ∨ x.toNat = 39 ∨ x.toNat = 34 ∨ x.toNat = 42) : escSize (x :: r) = 1 := if_pos h
theorem size_hex {x : UInt8} {r : Bs} (h : x.toNat = 120) : escSize (x :: r) = hexSize r := by unfold escSize; simp [h]
theorem size_uni {x : UInt8} {r : Bs} (h : x.toNat = 117) : escSize (x :: r) = long r := by unfold escSize; simp [h]
theorem size_none {x : UInt8} {r : Bs} (h : x.toNat ≠ 110 ∧ x.toNat ≠ 114 ∧ x.toNat ≠ 116 ∧ x.toNat ≠ 92 ∧ x.toNat ≠ 48 ∧ x.toNat ≠ 39 ∧ x.toNat ≠ 34 ∧ x.toNat ≠ 42 ∧ x.toNat ≠ 120 ∧ x.toNat ≠ 117) : escSize (x :: r) = 0 := by unfold escSize; simp [h]
theorem hexI_some {x : UInt8} {v : Nat} (h : hexVal x = some v) : hexI x = v := by unfold hexI; rw [h]
theorem hexI_none {x : UInt8} (h : hexVal x = none) : hexI x = -1 := by unfold hexI; rw [h]

set_option maxRecDepth 100000 in
set_option maxHeartbeats 2000000 in
theorem size_any (l : Bs) (i : Nat) (hn : l.length ≤ 2000) (hi : i ≤ l.length) (w : World) : Calls Tryd.prog 12 #[.string (bs l), .int .i64 i] w (LongPost (escSize (l.drop i)) w) := by
  have hsz := bs_size l
  have HLG := Go.Lib.hid (fun (h : i < l.length) w => long_any l i hn h w)
  generalize hln : l.length = n at *
  have HLN := Go.Lib.hid hln
  clear hln
  cases hd : l.drop i with
  | nil =>
    have hb : (n : Int) ≤ (i : Int) := by have := congrArg List.length hd; rw [List.length_drop, HLN.out] at this; simp at this; omega
    go_enter Tryd.func12, Tryd.ntmps12
    go_wp2
    exact ⟨rfl, _, by simp [results, Tryd.results12, go_sem] <;> rfl, rfl, rfl⟩
  | cons x r =>
    obtain ⟨h1, hd1⟩ := drop_cons hd
    rw [HLN.out] at h1
    have HIX := Go.Lib.hid (ix l (i : Int) i x rfl (by have := congrArg (·[0]?) hd; simpa using this))
    have hb : (i : Int) < (n : Int) := by omega
    have hrl : r.length + (i + 1) = n := by rw [← hd1, List.length_drop, HLN.out]; omega
    have HD1 := Go.Lib.hid hd1
    clear hd hd1
    by_cases y110 : x.toNat = 110
    · rw [size_simple (.inl y110)]
      have hix := HIX.out
      rw [y110] at hix
      clear HLG HD1
      go_enter Tryd.func12, Tryd.ntmps12
      go_wp2
      exact ⟨rfl, _, by simp [results, Tryd.results12, go_sem] <;> rfl, rfl, rfl⟩
    by_cases y114 : x.toNat = 114
    · rw [size_simple (.inr (.inl y114))]
      have hix := HIX.out
      rw [y114] at hix
      clear HLG HD1
      go_enter Tryd.func12, Tryd.ntmps12
      go_wp2
      exact ⟨rfl, _, by simp [results, Tryd.results12, go_sem] <;> rfl, rfl, rfl⟩
    by_cases y116 : x.toNat = 116
    · rw [size_simple (.inr (.inr (.inl y116)))]
      have hix := HIX.out
      rw [y116] at hix
      clear HLG HD1
      go_enter Tryd.func12, Tryd.ntmps12
      go_wp2
      exact ⟨rfl, _, by simp [results, Tryd.results12, go_sem] <;> rfl, rfl, rfl⟩
    by_cases y92 : x.toNat = 92
    · rw [size_simple (.inr (.inr (.inr (.inl y92))))]
      have hix := HIX.out
      rw [y92] at hix
      clear HLG HD1
      go_enter Tryd.func12, Tryd.ntmps12
      go_wp2
      exact ⟨rfl, _, by simp [results, Tryd.results12, go_sem] <;> rfl, rfl, rfl⟩
    by_cases y48 : x.toNat = 48
    · rw [size_simple (.inr (.inr (.inr (.inr (.inl y48)))))]
      have hix := HIX.out
      rw [y48] at hix
      clear HLG HD1
      go_enter Tryd.func12, Tryd.ntmps12
      go_wp2
      exact ⟨rfl, _, by simp [results, Tryd.results12, go_sem] <;> rfl, rfl, rfl⟩
    by_cases y39 : x.toNat = 39
    · rw [size_simple (.inr (.inr (.inr (.inr (.inr (.inl y39))))))]
      have hix := HIX.out
      rw [y39] at hix
      clear HLG HD1
      go_enter Tryd.func12, Tryd.ntmps12
      go_wp2
      exact ⟨rfl, _, by simp [results, Tryd.results12, go_sem] <;> rfl, rfl, rfl⟩
    by_cases y34 : x.toNat = 34
    · rw [size_simple (.inr (.inr (.inr (.inr (.inr (.inr (.inl y34)))))))]
      have hix := HIX.out
      rw [y34] at hix
      clear HLG HD1
      go_enter Tryd.func12, Tryd.ntmps12
      go_wp2
      exact ⟨rfl, _, by simp [results, Tryd.results12, go_sem] <;> rfl, rfl, rfl⟩
    by_cases y42 : x.toNat = 42
    · rw [size_simple (.inr (.inr (.inr (.inr (.inr (.inr (.inr (y42))))))))]
      have hix := HIX.out
      rw [y42] at hix
      clear HLG HD1
      go_enter Tryd.func12, Tryd.ntmps12
      go_wp2
      exact ⟨rfl, _, by simp [results, Tryd.results12, go_sem] <;> rfl, rfl, rfl⟩
    have b110 : ((x.toNat : Int) == 110) = false := by simp; omega
    have b114 : ((x.toNat : Int) == 114) = false := by simp; omega
    have b116 : ((x.toNat : Int) == 116) = false := by simp; omega
    have b92 : ((x.toNat : Int) == 92) = false := by simp; omega
    have b48 : ((x.toNat : Int) == 48) = false := by simp; omega
    have b39 : ((x.toNat : Int) == 39) = false := by simp; omega
    have b34 : ((x.toNat : Int) == 34) = false := by simp; omega
    have b42 : ((x.toNat : Int) == 42) = false := by simp; omega
    by_cases y117 : x.toNat = 117
    · rw [size_uni y117]
      have hix := HIX.out
      rw [y117] at hix
      have hcl := fun w => HLG.out h1 w
      rw [HD1.out] at hcl
      have HCL := Go.Lib.hid hcl
      clear HLG HD1 hcl b110 b114 b116 b92 b48 b39 b34 b42
      go_enter Tryd.func12, Tryd.ntmps12
      go_wp2_with fail
      refine (HCL.out _).mono ?_
      rintro e w1 ⟨rfl, rfl⟩
      go_wp2
      exact ⟨rfl, _, by simp [results, Tryd.results12, go_sem] <;> rfl, rfl, rfl⟩
    by_cases y120 : x.toNat = 120
    · rw [size_hex y120]
      have hix := HIX.out
      rw [y120] at hix
      clear HLG b110 b114 b116 b92 b48 b39 b34 b42
      match r, hrl, HD1 with
      | [], hrl, HD1 =>
        have hb2 : (n : Int) ≤ (i : Int) + 2 := by simp at hrl; omega
        go_enter Tryd.func12, Tryd.ntmps12
        go_wp2
        exact ⟨rfl, _, by simp [results, Tryd.results12, go_sem] <;> rfl, rfl, rfl⟩
      | [a], hrl, HD1 =>
        have hb2 : (n : Int) ≤ (i : Int) + 2 := by simp at hrl; omega
        go_enter Tryd.func12, Tryd.ntmps12
        go_wp2
        exact ⟨rfl, _, by simp [results, Tryd.results12, go_sem] <;> rfl, rfl, rfl⟩
      | a :: b :: t, hrl, HD1 =>
        have hb2 : (i : Int) + 2 < (n : Int) := by simp at hrl; omega
        have hia := ix l ((i : Int) + 1) (i + 1) a (by omega) (by have := congrArg (·[0]?) HD1.out; simpa using this)
        have hib := ix l ((i : Int) + 2) (i + 2) b (by omega) (by have := congrArg (·[1]?) HD1.out; simpa using this)
        have HDA := Go.Lib.hid (fun w => hexD_any a w)
        have HDB := Go.Lib.hid (fun w => hexD_any b w)
        cases va : hexVal a with
        | none =>
          rw [show hexSize (a :: b :: t) = 0 from by unfold hexSize; simp [va]]
          have ea := hexI_none va
          go_enter Tryd.func12, Tryd.ntmps12
          go_wp2_with fail
          refine (HDA.out _).mono ?_
          rintro e w1 ⟨rfl, rfl⟩
          rw [ea]
          go_wp2
          exact ⟨rfl, _, by simp [results, Tryd.results12, go_sem] <;> rfl, rfl, rfl⟩
        | some xa =>
          have ea := hexI_some va
          have ga : (0 : Int) ≤ (xa : Int) := by omega
          cases vb : hexVal b with
          | none =>
            rw [show hexSize (a :: b :: t) = 0 from by unfold hexSize; simp [vb]]
            have eb := hexI_none vb
            go_enter Tryd.func12, Tryd.ntmps12
            go_wp2_with fail
            refine (HDA.out _).mono ?_
            rintro e w1 ⟨rfl, rfl⟩
            rw [ea]
            go_wp2_with fail
            refine (HDB.out _).mono ?_
            rintro e w1 ⟨rfl, rfl⟩
            rw [eb]
            go_wp2
            exact ⟨rfl, _, by simp [results, Tryd.results12, go_sem] <;> rfl, rfl, rfl⟩
          | some xb =>
            have eb := hexI_some vb
            have gb : (0 : Int) ≤ (xb : Int) := by omega
            rw [show hexSize (a :: b :: t) = 3 from by unfold hexSize; simp [va, vb]]
            go_enter Tryd.func12, Tryd.ntmps12
            go_wp2_with fail
            refine (HDA.out _).mono ?_
            rintro e w1 ⟨rfl, rfl⟩
            rw [ea]
            go_wp2_with fail
            refine (HDB.out _).mono ?_
            rintro e w1 ⟨rfl, rfl⟩
            rw [eb]
            go_wp2
            exact ⟨rfl, _, by simp [results, Tryd.results12, go_sem] <;> rfl, rfl, rfl⟩
    have b117 : ((x.toNat : Int) == 117) = false := by simp; omega
    have b120 : ((x.toNat : Int) == 120) = false := by simp; omega
    rw [size_none ⟨y110, y114, y116, y92, y48, y39, y34, y42, y120, y117⟩]
    have hix := HIX.out
    clear HLG HD1
    generalize x.toNat = c at *
    go_enter Tryd.func12, Tryd.ntmps12
    go_wp2
    exact ⟨rfl, _, by simp [results, Tryd.results12, go_sem] <;> rfl, rfl, rfl⟩

end Go.Proofs.YthklhdeegmanbaaDoor.Esc

/-
  The reference's forms of escapes, walked.
  Conditions: sizes.
-/
import Derived.Test.YthklhdeegmanbaaDoorLett
namespace Go.Proofs.YthklhdeegmanbaaDoor.Esc
open Go Go.ChangeShapes Go.WideShapes Go.ChangeAt Go.RowKit

theorem bs_getElem (l : Bs) (k : Nat) (h : k < (bs l).size) : (bs l)[k]'h = l[k]'(by rw [bs_size] at h; exact h) := by
  show (bs l).data[k] = _
  simp [bs]
theorem ix (l : Bs) (z : Int) (k : Nat) (x : UInt8) (hz : z = (k : Int)) (h : l[k]? = some x) (w : World) : (Instr.index 9 (.string (bs l)) (.int .i64 z)).run Tryd.prog w = .ok (.int .u8 x.toNat) w := by
  subst hz
  obtain ⟨hlt, hx⟩ := List.getElem?_eq_some_iff.1 h
  rw [run_index_string w 9 (bs l) .i64 (k : Int) Tryd.underlying9, dif_pos ⟨by omega, by rw [bs_size]; omega⟩]
  have e1 : ((k : Int)).toNat = k := by omega
  simp only [e1, bs_getElem, hx]

def hexI (x : UInt8) : Int := match hexVal x with | some v => (v : Int) | none => -1
def HexDPost (x : UInt8) (W : World) (e : Ending) (W' : World) : Prop := e = .returned (.int .i64 (hexI x)) ∧ W' = W
theorem hexD_any (x : UInt8) (w : World) : Calls Tryd.prog 23 #[.int .u8 x.toNat] w (HexDPost x w) := by
  have hx := UInt8.toNat_lt x
  have hv : hexI x = if 48 ≤ x.toNat ∧ x.toNat ≤ 57 then ((x.toNat - 48 : Nat) : Int) else if 97 ≤ x.toNat ∧ x.toNat ≤ 102 then ((x.toNat - 87 : Nat) : Int) else if 65 ≤ x.toNat ∧ x.toNat ≤ 70 then ((x.toNat - 55 : Nat) : Int) else -1 := by
    unfold hexI hexVal
    repeat' split
    all_goals simp_all
  have HV := Go.Lib.hid hv
  unfold HexDPost
  generalize hexI x = v at *
  generalize x.toNat = c at *
  clear hv
  by_cases k0 : 48 ≤ c ∧ c ≤ 57
  · obtain ⟨k1, k2⟩ := k0
    have e0 : IntKind.u8.wrap ((c : Int) - 48) = (c : Int) - 48 := IntWalk.u8_in _ (by omega)
    have e1 : IntKind.i64.wrap ((c : Int) - 48) = (c : Int) - 48 := by rw [IntKind.wrap_i64]; omega
    have e2 : v = (c : Int) - 48 := by rw [HV.out, if_pos ⟨k1, k2⟩]; omega
    subst e2
    clear HV
    go_enter Tryd.func23, Tryd.ntmps23
    go_wp2
    exact ⟨rfl, _, by simp [results, Tryd.results23, go_sem] <;> rfl, rfl, rfl⟩
  by_cases k1 : 97 ≤ c ∧ c ≤ 102
  · obtain ⟨k1, k2⟩ := k1
    have e0 : IntKind.u8.wrap ((c : Int) - 97) = (c : Int) - 97 := IntWalk.u8_in _ (by omega)
    have e1 : IntKind.i64.wrap ((c : Int) - 97) = (c : Int) - 97 := by rw [IntKind.wrap_i64]; omega
    have e3 : IntKind.i64.wrap ((c : Int) - 97 + 10) = (c : Int) - 97 + 10 := by rw [IntKind.wrap_i64]; omega
    have e2 : v = (c : Int) - 97 + 10 := by rw [HV.out, if_neg k0, if_pos ⟨k1, k2⟩]; omega
    have k3 : (57 : Int) < (c : Int) := by omega
    subst e2
    clear HV k0
    go_enter Tryd.func23, Tryd.ntmps23
    go_wp2
    exact ⟨rfl, _, by simp [results, Tryd.results23, go_sem] <;> rfl, rfl, rfl⟩
  by_cases k2 : 65 ≤ c ∧ c ≤ 70
  · obtain ⟨k2, k3⟩ := k2
    have e0 : IntKind.u8.wrap ((c : Int) - 65) = (c : Int) - 65 := IntWalk.u8_in _ (by omega)
    have e1 : IntKind.i64.wrap ((c : Int) - 65) = (c : Int) - 65 := by rw [IntKind.wrap_i64]; omega
    have e3 : IntKind.i64.wrap ((c : Int) - 65 + 10) = (c : Int) - 65 + 10 := by rw [IntKind.wrap_i64]; omega
    have e2 : v = (c : Int) - 65 + 10 := by rw [HV.out, if_neg k0, if_neg k1, if_pos ⟨k2, k3⟩]; omega
    have k4 : (57 : Int) < (c : Int) := by omega
    have k5 : (c : Int) < 97 := by omega
    subst e2
    clear HV k0 k1
    go_enter Tryd.func23, Tryd.ntmps23
    go_wp2
    exact ⟨rfl, _, by simp [results, Tryd.results23, go_sem] <;> rfl, rfl, rfl⟩
  · have e2 : v = -1 := by rw [HV.out, if_neg k0, if_neg k1, if_neg k2]
    subst e2
    clear HV
    by_cases m1 : (48 : Int) ≤ c <;> by_cases m2 : (c : Int) ≤ 57 <;> by_cases m3 : (97 : Int) ≤ c <;> by_cases m4 : (c : Int) ≤ 102 <;> by_cases m5 : (65 : Int) ≤ c <;> by_cases m6 : (c : Int) ≤ 70
    all_goals first
      | (exfalso; omega)
      | (clear k0 k1 k2
         go_enter Tryd.func23, Tryd.ntmps23
         go_wp2
         exact ⟨rfl, _, by simp [results, Tryd.results23, go_sem] <;> rfl, rfl, rfl⟩)

def long (l : Bs) : Nat :=
  match l with
  | x :: r => if x.toNat = 123 then
      (match (hexRun r).2 with
      | y :: _ => if y.toNat = 125 ∧ 1 ≤ (hexRun r).1.length ∧ (hexRun r).1.length ≤ 6 then (hexRun r).1.length + 3 else 0
      | [] => 0) else 0
  | [] => 0
def LongPost (n : Nat) (W : World) (e : Ending) (W' : World) : Prop := e = .returned (.int .i64 n) ∧ W' = W

theorem hexRun_at : ∀ (r : Bs) (j : Nat), j ≤ (hexRun r).1.length → hexRun (r.drop j) = ((hexRun r).1.drop j, (hexRun r).2)
  | r, 0, _ => by simp
  | [], j + 1, h => by simp [hexRun] at h
  | x :: r, j + 1, h => by
    unfold hexRun at h
    cases hv : hexVal x with
    | none => rw [hv] at h; simp at h
    | some v =>
      rw [hv] at h
      simp at h
      rw [hexRun_go hv]
      simpa using hexRun_at r j h

theorem hexRun_nil {q : Bs} (h : (hexRun q).1 = []) : (hexRun q).2 = q := by
  cases q with
  | nil => rfl
  | cons x r =>
    cases hv : hexVal x with
    | none => rw [hexRun_stop hv]
    | some v => rw [hexRun_go hv] at h; cases h
theorem hexRun_tail (r : Bs) : r.drop (hexRun r).1.length = (hexRun r).2 := by
  have h := hexRun_at r (hexRun r).1.length (Nat.le_refl _)
  rw [List.drop_of_length_le (Nat.le_refl _)] at h
  have h1 := hexRun_nil (q := r.drop (hexRun r).1.length) (by rw [h])
  rw [h] at h1
  exact h1.symm
theorem hexRun_head {r : Bs} {j : Nat} (h : j < (hexRun r).1.length) : ∃ y, r[j]? = some y ∧ (hexVal y).isSome = true := by
  have h1 := hexRun_at r j (by omega)
  cases hq : r.drop j with
  | nil =>
    rw [hq] at h1
    have := congrArg (fun p => p.1.length) h1
    simp [hexRun] at this
    omega
  | cons y q =>
    refine ⟨y, by have := congrArg (·[0]?) hq; simpa using this, ?_⟩
    cases hv : hexVal y with
    | some v => rfl
    | none =>
      rw [hq, hexRun_stop hv] at h1
      have := congrArg (fun p => p.1.length) h1
      simp at this
      omega
theorem hexRun_stopped {r t : Bs} {y : UInt8} (h : (hexRun r).2 = y :: t) : hexVal y = none := by
  have h1 := hexRun_at r (hexRun r).1.length (Nat.le_refl _)
  rw [hexRun_tail, h] at h1
  cases hv : hexVal y with
  | none => rfl
  | some v =>
    rw [hexRun_go hv] at h1
    have := congrArg (fun p => p.1.length) h1
    simp at this

set_option maxHeartbeats 2000000 in
theorem long_any (l : Bs) (i : Nat) (hn : l.length ≤ 2000) (hi : i < l.length) (w : World) : Calls Tryd.prog 24 #[.string (bs l), .int .i64 i] w (LongPost (long (l.drop (i + 1))) w) := by
  have HSZ := Go.Lib.hid (bs_size l)
  have hsz := bs_size l
  generalize hln : l.length = n at *
  have HLN := Go.Lib.hid hln
  clear hln
  cases hd : l.drop (i + 1) with
  | nil =>
    have hb : (n : Int) ≤ (i : Int) + 1 := by have := congrArg List.length hd; rw [List.length_drop, HLN.out] at this; simp at this; omega
    go_enter Tryd.func24, Tryd.ntmps24
    go_wp2
    exact ⟨rfl, _, by simp [results, Tryd.results24, go_sem] <;> rfl, rfl, rfl⟩
  | cons x r =>
    obtain ⟨h1, hd1⟩ := drop_cons hd
    rw [HLN.out] at h1
    have hix := ix l ((i : Int) + 1) (i + 1) x (by omega) (by have := congrArg (·[0]?) hd; simpa using this)
    have hb : (i : Int) + 1 < (n : Int) := by omega
    by_cases hx : x.toNat = 123
    · rw [hx] at hix
      have hrl : r.length + (i + 2) = n := by rw [← hd1, List.length_drop, HLN.out]; omega
      have hll := hexRun_eq r
      have HX := Go.Lib.hid (fun (j : Nat) (y : UInt8) (z : Int) (hz : z = (i : Int) + 2 + j) (hy : r[j]? = some y) => ix l z (i + 1 + 1 + j) y (by omega) (by rw [← List.getElem?_drop, hd1]; exact hy))
      have HTL := Go.Lib.hid (hexRun_tail r)
      have HHD := Go.Lib.hid (fun (j : Nat) (h : j < (hexRun r).1.length) => hexRun_head h)
      have HST := Go.Lib.hid (fun (y : UInt8) (t : Bs) (h : (hexRun r).2 = y :: t) => hexRun_stopped h)
      have HLO : long (x :: r) = (match (hexRun r).2 with
        | y :: _ => if y.toNat = 125 ∧ 1 ≤ (hexRun r).1.length ∧ (hexRun r).1.length ≤ 6 then (hexRun r).1.length + 3 else 0
        | [] => 0) := if_pos hx
      rw [HLO]
      clear HLO hd hd1
      generalize (hexRun r).2 = tail at *
      generalize (hexRun r).1.length = L at *
      go_enter Tryd.func24, Tryd.ntmps24
      go_wp2
      go_loopw [5] (fun nv wr => ∃ j : Nat, j ≤ L ∧ nv = .int .i64 j ∧ wr = w) (fun nv _ => L - (intOf nv).toNat)
      case atStart => exact ⟨0, Nat.zero_le _, rfl, rfl⟩
      case round =>
        obtain ⟨j, hj, rfl, rfl⟩ := hrel
        by_cases hjL : j < L
        · obtain ⟨y, hy, hv⟩ := HHD.out j hjL
          have hiy := HX.out j y _ rfl hy
          have hb2 : (i : Int) + 2 + (j : Int) < (n : Int) := by omega
          have hge : (0 : Int) ≤ hexI y := by
            unfold hexI
            obtain ⟨v, hv'⟩ := Option.isSome_iff_exists.1 hv
            rw [hv']
            simp only
            omega
          have HDD := Go.Lib.hid (fun w => hexD_any y w)
          have hj1 : j + 1 ≤ L := by omega
          clear hy hv HX HTL HHD HST
          go_wp2_with fail
          refine (HDD.out _).mono ?_
          rintro e w1 ⟨rfl, rfl⟩
          go_wp2
          go_roundw
          case rel => exact ⟨j + 1, hj1, by go_num, by trivial⟩
          case measure => simp [intOf]; omega
        · obtain rfl : j = L := by omega
          cases tail with
          | nil =>
            have hb2 : (n : Int) ≤ (i : Int) + 2 + (j : Int) := by simp at hll; omega
            clear HX HTL HHD HST
            by_cases m1 : (j : Int) < 1 <;> by_cases m2 : (j : Int) ≤ 6
            all_goals
              go_wp2
              all_goals exact ⟨rfl, _, by simp [results, Tryd.results24, go_sem] <;> rfl, rfl, rfl⟩
          | cons y t =>
            have hst := HST.out y t rfl
            have hy : r[j]? = some y := by have := congrArg (·[0]?) HTL.out; simpa using this
            have hiy := HX.out j y _ rfl hy
            have hb2 : (i : Int) + 2 + (j : Int) < (n : Int) := by simp at hll; omega
            have hneg : hexI y = -1 := by unfold hexI; rw [hst]
            have HDD := Go.Lib.hid (fun w => hexD_any y w)
            clear hy HX HTL HHD HST hst
            go_wp2_with fail
            refine (HDD.out _).mono ?_
            rintro e w1 ⟨rfl, rfl⟩
            rw [hneg]
            by_cases m3 : y.toNat = 125
            · have hc : ((y.toNat : Int) != 125) = false := by simp; omega
              by_cases m1 : 1 ≤ j
              · by_cases m2 : j ≤ 6
                · go_wp2
                  exact ⟨rfl, _, by simp [results, Tryd.results24, go_sem] <;> rfl, by first | rfl | simp, rfl⟩
                · go_wp2
                  all_goals exact ⟨rfl, _, by simp [results, Tryd.results24, go_sem] <;> rfl, by first | rfl | simp, rfl⟩
              · go_wp2
                all_goals exact ⟨rfl, _, by simp [results, Tryd.results24, go_sem] <;> rfl, by first | rfl | simp, rfl⟩
            · have hc : ((y.toNat : Int) != 125) = true := by simp; omega
              have HF := Go.Lib.hid (show LongPost (if y.toNat = 125 ∧ 1 ≤ j ∧ j ≤ 6 then j + 3 else 0) w1 (.returned (.int .i64 0)) w1 from ⟨by rw [if_neg (fun h => m3 h.1)]; rfl, rfl⟩)
              by_cases m1 : (j : Int) < 1 <;> by_cases m2 : (j : Int) ≤ 6
              all_goals
                go_wp2
                all_goals exact ⟨rfl, _, by simp [results, Tryd.results24, go_sem] <;> rfl, by first | rfl | simp, rfl⟩
    · have hx2 : ((x.toNat : Int) != 123) = true := by simp; omega
      have hend : long (x :: r) = 0 := by unfold long; simp only; rw [if_neg hx]
      rw [hend]
      generalize x.toNat = c at *
      go_enter Tryd.func24, Tryd.ntmps24
      go_wp2
      exact ⟨rfl, _, by simp [results, Tryd.results24, go_sem] <;> rfl, rfl, rfl⟩

end Go.Proofs.YthklhdeegmanbaaDoor.Esc

/-
  The reference's escapeValue, walked.
  Conditions: sizes.
-/
import Derived.Test.YthklhdeegmanbaaDoorSize
import Derived.Deep.RegionHeld3
namespace Go.Proofs.YthklhdeegmanbaaDoor.Esc
open Go Go.ChangeShapes Go.WideShapes Go.ChangeAt Go.RowKit

def VPost (c : Int) (ok : Bool) (W : World) (e : Ending) (W' : World) : Prop := e = .returned (.tuple #[.int .i32 c, .bool ok]) ∧ Since W W'
def simpleVal (c : Nat) : Int := if c = 110 then 10 else if c = 114 then 13 else if c = 116 then 9 else if c = 48 then 0 else c

set_option maxHeartbeats 1000000 in
theorem val_simple (x : UInt8) (q : Bs) (hx : x.toNat = 110 ∨ x.toNat = 114 ∨ x.toNat = 116 ∨ x.toNat = 92 ∨ x.toNat = 48 ∨ x.toNat = 39 ∨ x.toNat = 34) (w : World) : Calls Tryd.prog 13 #[.string (bs (x :: q))] w (VPost (simpleVal x.toNat) true w) := by
  have hix := ix (x :: q) 0 0 x rfl rfl
  generalize bs (x :: q) = s at *
  generalize x.toNat = c at *
  rcases hx with rfl | rfl | rfl | rfl | rfl | rfl | rfl
  all_goals
    go_enter Tryd.func13, Tryd.ntmps13
    go_wp2
    exact ⟨rfl, _, by simp [results, Tryd.results13, go_sem] <;> rfl, by rfl, Since.refl w⟩

set_option maxHeartbeats 1000000 in
theorem val_hex (x a b : UInt8) (va vb : Nat) (hx : x.toNat = 120) (ha : hexVal a = some va) (hb : hexVal b = some vb) (w : World) : Calls Tryd.prog 13 #[.string (bs [x, a, b])] w (VPost ((16 * va + vb : Nat) : Int) (decide (16 * va + vb < 128)) w) := by
  have hix := ix [x, a, b] 0 0 x rfl rfl
  have hia := ix [x, a, b] 1 1 a rfl rfl
  have hib := ix [x, a, b] 2 2 b rfl rfl
  have h1 := (hexVal_lt ha).2
  have h2 := (hexVal_lt hb).2
  have ea := hexI_some ha
  have eb := hexI_some hb
  rw [hx] at hix
  generalize bs [x, a, b] = s at *
  have w1 : IntKind.i64.wrap (16 * (va : Int)) = 16 * (va : Int) := IntWalk.i64_in _ (by omega)
  have w2 : IntKind.i64.wrap (16 * (va : Int) + vb) = 16 * (va : Int) + vb := IntWalk.i64_in _ (by omega)
  have w3 : IntKind.i32.wrap (16 * (va : Int) + vb) = 16 * (va : Int) + vb := IntWalk.i32_in _ (by omega)
  have hpost : ∀ w', Since w w' → VPost ((16 * va + vb : Nat) : Int) (decide (16 * va + vb < 128)) w (.returned (.tuple #[.int .i32 (16 * (va : Int) + vb), .bool (decide (16 * (va : Int) + vb < 128))])) w' := fun w' h => by
    refine ⟨?_, h⟩
    have e1 : ((16 * va + vb : Nat) : Int) = 16 * (va : Int) + vb := by omega
    have e2 : decide (16 * va + vb < 128) = decide (16 * (va : Int) + vb < 128) := by
      by_cases h : 16 * va + vb < 128
      · rw [decide_eq_true h, decide_eq_true (by omega)]
      · rw [decide_eq_false h, decide_eq_false (by omega)]
    rw [e1, e2]
  have HPOST := Go.Lib.hid hpost
  clear hpost
  go_enter Tryd.func13, Tryd.ntmps13
  go_wp2
  go_region_held3 (fun w' => Since w w')
    (first | exact (Since.refl w).drew | assumption)
    (first | (go_at_call 23; refine (hexD_any _ _).mono ?_; rintro e w' ⟨rfl, rfl⟩; first | rw [ea] | rw [eb]))
  all_goals (have hs1 : Since w w.drew := (Since.refl w).drew)
  all_goals go_wp2
  all_goals exact ⟨rfl, _, by simp [results, Tryd.results13, go_sem] <;> rfl, HPOST.out _ hs1⟩

theorem hexRun_val {r : Bs} {j : Nat} (h : j < (hexRun r).1.length) : ∃ y v, r[j]? = some y ∧ hexVal y = some v ∧ (hexRun r).1[j]? = some v := by
  have h1 := hexRun_at r j (by omega)
  obtain ⟨y, hy, hv⟩ := hexRun_head h
  obtain ⟨v, hv⟩ := Option.isSome_iff_exists.1 hv
  refine ⟨y, v, hy, hv, ?_⟩
  have hq : ∃ q, r.drop j = y :: q := by
    cases hq : r.drop j with
    | nil => have := congrArg (·[0]?) hq; simp [hy] at this
    | cons z q => have := congrArg (·[0]?) hq; simp [hy] at this; exact ⟨q, by rw [this]⟩
  obtain ⟨q, hq⟩ := hq
  rw [hq, hexRun_go hv] at h1
  have h2 := congrArg (fun p => p.1[0]?) h1
  simpa using h2.symm
theorem hexRun_small (r : Bs) : ∀ d ∈ (hexRun r).1, d < 16 := by
  intro d hd
  obtain ⟨j, hj, rfl⟩ := List.getElem_of_mem hd
  obtain ⟨y, v, _, hv, he⟩ := hexRun_val hj
  rw [List.getElem?_eq_getElem hj] at he
  injection he with he
  rw [he]
  exact (hexVal_lt hv).2
theorem num16_take {D : List Nat} {j v : Nat} (h : D[j]? = some v) : num16 (D.take (j + 1)) = 16 * num16 (D.take j) + v := by
  rw [List.take_add_one, h]
  exact num16_snoc _ _

set_option maxHeartbeats 2000000 in
theorem val_uni (x : UInt8) (r : Bs) (q : Bs) (hx : x.toNat = 117) (h6 : (hexRun r).1.length ≤ 6) (hq : q.length = (hexRun r).1.length + 3) (hq0 : q[0]? = some x) (hqj : ∀ j, j < (hexRun r).1.length → q[j + 2]? = r[j]?) (w : World) :
    Calls Tryd.prog 13 #[.string (bs q)] w (VPost ((num16 (hexRun r).1 : Nat) : Int) (Lib.validRune ((num16 (hexRun r).1 : Nat) : Int)) w) := by
  have hix := ix q 0 0 x rfl hq0
  have hsz := bs_size q
  rw [hx] at hix
  have HV := Go.Lib.hid (fun (j : Nat) (z : Int) (hz : z = (j : Int) + 2) (h : j < (hexRun r).1.length) => by
    obtain ⟨y, v, a, b, c⟩ := hexRun_val h
    exact (show ∃ (y : UInt8) (v : Nat), hexVal y = some v ∧ (hexRun r).1[j]? = some v ∧ ∀ w, (Instr.index 9 (.string (bs q)) (.int .i64 z)).run Tryd.prog w = .ok (.int .u8 y.toNat) w from
      ⟨y, v, b, c, ix q z (j + 2) y (by omega) ((hqj j h).trans a)⟩))
  have HSM := Go.Lib.hid (hexRun_small r)
  generalize (hexRun r).1 = D at *
  generalize hL : D.length = L at *
  have HL := Go.Lib.hid hL
  rw [hq] at hsz
  have hN := num16_lt HSM.out (by rw [hL]; exact h6)
  have hpost : ∀ b : Bool, (b = true ↔ ((num16 D : Nat) : Int) < 55296 ∨ (57343 < ((num16 D : Nat) : Int) ∧ ((num16 D : Nat) : Int) ≤ 1114111)) → VPost ((num16 D : Nat) : Int) (Lib.validRune ((num16 D : Nat) : Int)) w (.returned (.tuple #[.int .i32 ((num16 D : Nat) : Int), .bool b])) w := fun b hb => by
    refine ⟨?_, Since.refl w⟩
    have : Lib.validRune ((num16 D : Nat) : Int) = b := by
      unfold Lib.validRune
      cases b with
      | true => exact decide_eq_true (by have := hb.1 rfl; omega)
      | false => exact decide_eq_false (fun h => by have := hb.2 (by omega); cases this)
    rw [this]
  have HPOST := Go.Lib.hid hpost
  clear hpost hL hqj hq0 hq
  generalize bs q = s at *
  go_enter Tryd.func13, Tryd.ntmps13
  go_wp2
  go_loopw [5, 6] (fun nv iv wr => ∃ j : Nat, j ≤ L ∧ iv = .int .i64 ((j : Int) + 2) ∧ nv = .int .i64 ((num16 (D.take j) : Nat) : Int) ∧ wr = w) (fun _ iv _ => L + 2 - (intOf iv).toNat)
  case atStart => exact ⟨0, Nat.zero_le _, rfl, rfl, rfl⟩
  case round =>
    obtain ⟨j, hj, rfl, rfl, rfl⟩ := hrel
    by_cases hjL : j < L
    · obtain ⟨y, v, hv, hdv, hiy⟩ := HV.out j _ rfl hjL
      have hlt := num16_lt (ds := D.take j) (fun d hd => HSM.out d (List.mem_of_mem_take hd)) (by rw [List.length_take]; omega)
      have hv16 := (hexVal_lt hv).2
      have hnx := num16_take hdv
      have ey := hexI_some hv
      have hb : (j : Int) + 2 < (L : Int) + 3 - 1 := by omega
      generalize num16 (D.take j) = N at *
      have w1 : IntKind.i64.wrap (16 * (N : Int)) = 16 * (N : Int) := IntWalk.i64_in _ (by omega)
      have w2 : IntKind.i64.wrap (16 * (N : Int) + v) = 16 * (N : Int) + v := IntWalk.i64_in _ (by omega)
      have HNX := Go.Lib.hid hnx
      clear hnx HV HPOST
      go_wp2_with fail
      refine (hexD_any y _).mono ?_
      rintro e w1 ⟨rfl, rfl⟩
      rw [ey]
      go_wp2
      go_roundw
      case rel => exact ⟨j + 1, hjL, by go_num, by rw [HNX.out]; go_num, by trivial⟩
      case measure => simp [intOf]; omega
    · obtain rfl : j = L := by omega
      have hb : ¬ ((j : Int) + 2 < (j : Int) + 3 - 1) := by omega
      have htk : D.take j = D := List.take_of_length_le (by rw [HL.out]; exact Nat.le_refl _)
      rw [htk]
      clear HV
      generalize num16 D = N at *
      have w3 : IntKind.i32.wrap (N : Int) = N := IntWalk.i32_in _ (by omega)
      by_cases m1 : (N : Int) < 55296
      · have HP := Go.Lib.hid (HPOST.out true (iff_of_true rfl (.inl m1)))
        clear HPOST
        go_wp2
        exact ⟨rfl, _, by simp [results, Tryd.results13, go_sem] <;> rfl, HP.out⟩
      · by_cases m2 : 57343 < (N : Int)
        · by_cases m3 : (N : Int) ≤ 1114111
          · have HP := Go.Lib.hid (HPOST.out true (iff_of_true rfl (.inr ⟨m2, m3⟩)))
            clear HPOST
            go_wp2
            exact ⟨rfl, _, by simp [results, Tryd.results13, go_sem] <;> rfl, HP.out⟩
          · have HP := Go.Lib.hid (HPOST.out false (iff_of_false Bool.false_ne_true (by omega)))
            clear HPOST
            go_wp2
            exact ⟨rfl, _, by simp [results, Tryd.results13, go_sem] <;> rfl, HP.out⟩
        · have HP := Go.Lib.hid (HPOST.out false (iff_of_false Bool.false_ne_true (by omega)))
          clear HPOST
          go_wp2
          exact ⟨rfl, _, by simp [results, Tryd.results13, go_sem] <;> rfl, HP.out⟩

end Go.Proofs.YthklhdeegmanbaaDoor.Esc

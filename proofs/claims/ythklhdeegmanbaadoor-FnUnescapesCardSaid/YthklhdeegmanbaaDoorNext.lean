/-
  The next rune of a row of bytes, and the hexadecimal digits, walked.
  Conditions: sizes.
-/
import Derived.Test.YthklhdeegmanbaaDoorBuild
namespace Go.Proofs.YthklhdeegmanbaaDoor.Esc
open Go Go.ChangeShapes Go.WideShapes Go.ChangeAt Go.RowKit

def Row (w : World) (b o : Nat) (l : Bs) : Prop := ∀ j u, l[j]? = some u → w.cell? ⟨b, o + j, none⟩ = some (.int .u8 u.toNat)
theorem Row.since {w w' : World} {b o : Nat} {l : Bs} (h : Row w b o l) (k : Since w w') : Row w' b o l := fun j u hu => cell_since k (h j u hu)
abbrev Tabs (w : World) : Prop := Lib.Utf8Tabs 0 1 w
theorem tabs_since {w w' : World} (h : Tabs w) (k : Since w w') : Tabs w' := ⟨fun c hc => cell_since k (h.1 c hc), fun i hi => ⟨cell_since k (h.2 i hi).1, cell_since k (h.2 i hi).2⟩⟩
def bs (l : Bs) : ByteArray := ⟨l.toArray⟩
theorem bs_size (l : Bs) : (bs l).size = l.length := by simp [bs, ByteArray.size]
theorem bs_get {l : Bs} {j : Nat} {u : UInt8} (h : l[j]? = some u) : (bs l).get! j = u := by
  have := List.getElem?_eq_some_iff.1 h
  obtain ⟨h1, h2⟩ := this
  simp [bs, ByteArray.get!, h1, h2]
theorem decodeGo_bs {l : Bs} (hne : l ≠ []) : Lib.decodeGo (bs l) = Lib.decodeL l := by
  unfold Lib.decodeGo
  rw [if_neg (by rw [bs_size]; exact fun e => hne (List.eq_nil_of_length_eq_zero e))]
  rfl

def NewPost (W : World) (e : Ending) (W' : World) : Prop := ∃ t v, e = .returned (.iface t v) ∧ Since W W'
theorem new_any (s : ByteArray) (w : World) : Calls Tryd.prog 21 #[.string s] w (NewPost w) := by
  go_enter Tryd.func21, Tryd.ntmps21
  go_wp2
  exact ⟨rfl, .iface 61 (.pointer (some ⟨w.heap.size, 0, none⟩)), by simp [results, Tryd.results21, go_sem], 61, _, rfl, (Since.refl w).alloc _⟩

def NextPost (l : Bs) (i : Nat) (W : World) (e : Ending) (W' : World) : Prop :=
  Since W W' ∧ ((l.drop i = [] ∧ ∃ t v, e = .returned (.tuple #[.int .i32 65533, .int .i64 i, .iface t v])) ∨
    (l.drop i ≠ [] ∧ e = .returned (.tuple #[.int .i32 (Lib.decodeL (l.drop i)).1, .int .i64 ((i : Int) + (Lib.decodeL (l.drop i)).2), .nilIface])))

set_option maxHeartbeats 400000 in
theorem next_in (l : Bs) (b o cap i : Nat) (w : World) (hi : i < l.length) (hlc : l.length ≤ cap) (hcap : cap ≤ maxLen) (hrow : Row w b o l) (hT : Tabs w) (hg : Good (l.drop i)) :
    Calls Tryd.prog 16 #[.slice (some ⟨b, o, none⟩) l.length cap, .int .i64 i] w (NextPost l i w) := by
  unfold maxLen at hcap
  have hne : l.drop i ≠ [] := by intro e; have := congrArg List.length e; simp at this; omega
  obtain ⟨hd, _⟩ := good_drop hne hg
  have hle := Lib.decodeL_le (l.drop i) hne
  rw [List.length_drop] at hle
  have hmax := Lib.decodeL_rune (l.drop i)
  have hD := Tryd.utf8_DecodeRune (bs (l.drop i)) b (o + i) (cap - i) w hT (fun j hj => by
    rw [bs_size, List.length_drop] at hj
    have h1 : (l.drop i)[j]? = some (l[i + j]'(by omega)) := by rw [List.getElem?_drop]; exact List.getElem?_eq_getElem (by omega)
    rw [bs_get h1]
    have := hrow (i + j) _ (List.getElem?_eq_getElem (by omega))
    rwa [← Nat.add_assoc] at this)
  rw [decodeGo_bs hne, bs_size, List.length_drop] at hD
  have hpost : NextPost l i w = fun e W' => Since w W' ∧ ((l.drop i = [] ∧ ∃ t v, e = .returned (.tuple #[.int .i32 65533, .int .i64 i, .iface t v])) ∨
    (l.drop i ≠ [] ∧ e = .returned (.tuple #[.int .i32 (Lib.decodeL (l.drop i)).1, .int .i64 ((i : Int) + (Lib.decodeL (l.drop i)).2), .nilIface]))) := rfl
  rw [hpost]
  generalize Lib.decodeL (l.drop i) = d at *
  obtain ⟨c, k⟩ := d
  simp only at hD hle hmax hd ⊢
  generalize hn : l.length = n at *
  have HD := Go.Lib.hid hD
  have HNE := Go.Lib.hid hne
  have hne' : ¬ cap = i := by omega
  have hki : (i : Int) ≤ (n : Int) := by omega
  have hcn : (n : Int) ≤ (cap : Int) := by omega
  have hsum : IntKind.i64.wrap ((i : Int) + (k : Int)) = (i : Int) + (k : Int) := by rw [IntKind.wrap_i64]; omega
  have hcd : ¬ ((c : Int) = 65533) := by omega
  clear hD hne hrow hg hT
  go_enter Tryd.func16, Tryd.ntmps16
  go_wp2_with fail
  refine HD.out.mono ?_
  rintro e w1 ⟨rfl, hs⟩
  have hs1 : Since w w1 := hs
  go_wp2
  exact ⟨rfl, _, by simp [results, Tryd.results16, go_sem], hs1, .inr ⟨HNE.out, rfl⟩⟩

set_option maxHeartbeats 400000 in
theorem next_end (l : Bs) (b o cap i : Nat) (w : World) (hi : i = l.length) (hlc : l.length ≤ cap) (hcap : cap ≤ maxLen) (hT : Tabs w) :
    Calls Tryd.prog 16 #[.slice (some ⟨b, o, none⟩) l.length cap, .int .i64 i] w (NextPost l i w) := by
  unfold maxLen at hcap
  have hnil : l.drop i = [] := by rw [hi]; simp
  have hD := fun o' c' => Tryd.utf8_DecodeRune (bs []) b o' c' w hT (fun j hj => by simp [bs, ByteArray.size] at hj)
  have e0 : Lib.decodeGo (bs []) = (65533, 0) := by rfl
  have e1 : (bs []).size = 0 := rfl
  rw [e0, e1] at hD
  have HD := Go.Lib.hid hD
  have HNIL := Go.Lib.hid hnil
  subst hi
  generalize hn : l.length = n at *
  have hcn : (n : Int) ≤ (cap : Int) := by omega
  have hz : n - n = 0 := by omega
  clear hD hnil hT
  by_cases hc : cap = n
  · subst hc
    go_enter Tryd.func16, Tryd.ntmps16
    go_wp2_with fail
    refine (HD.out _ _).mono ?_
    rintro e w1 ⟨rfl, hs⟩
    have hs1 : Since w w1 := hs
    go_wp2_with fail
    refine (new_any _ _).mono ?_
    rintro e w2 ⟨t, v, rfl, hs2⟩
    have hs3 := hs1.trans hs2
    go_wp2
    exact ⟨rfl, _, by simp [results, Tryd.results16, go_sem], hs3, .inl ⟨HNIL.out, t, v, rfl⟩⟩
  · go_enter Tryd.func16, Tryd.ntmps16
    go_wp2_with fail
    refine (HD.out _ _).mono ?_
    rintro e w1 ⟨rfl, hs⟩
    have hs1 : Since w w1 := hs
    go_wp2_with fail
    refine (new_any _ _).mono ?_
    rintro e w2 ⟨t, v, rfl, hs2⟩
    have hs3 := hs1.trans hs2
    go_wp2
    exact ⟨rfl, _, by simp [results, Tryd.results16, go_sem], hs3, .inl ⟨HNIL.out, t, v, rfl⟩⟩

theorem next_any (l : Bs) (b o cap i : Nat) (w : World) (hi : i ≤ l.length) (hlc : l.length ≤ cap) (hcap : cap ≤ maxLen) (hrow : Row w b o l) (hT : Tabs w) (hg : Good (l.drop i)) :
    Calls Tryd.prog 16 #[.slice (some ⟨b, o, none⟩) l.length cap, .int .i64 i] w (NextPost l i w) := by
  by_cases h : i < l.length
  · exact next_in l b o cap i w h hlc hcap hrow hT hg
  · exact next_end l b o cap i w (by omega) hlc hcap hT

/-- A rune's value as a hexadecimal digit. -/
def hexR (c : Nat) : Option Nat :=
  if 48 ≤ c ∧ c ≤ 57 then some (c - 48) else if 97 ≤ c ∧ c ≤ 102 then some (c - 87) else if 65 ≤ c ∧ c ≤ 70 then some (c - 55) else none
theorem hexR_lt {c v : Nat} (h : hexR c = some v) : c < 128 ∧ v < 16 := by
  unfold hexR at h
  repeat' split at h
  all_goals first | (cases h; done) | (simp at h; omega)

def low (c : Int) : Int := bits .or .i32 32 c
theorem lower_any (c : Int) (w : World) : Calls Tryd.prog 34 #[.int .i32 c] w fun e w' => e = .returned (.int .i32 (low c)) ∧ w' = w := by
  go_enter Tryd.func34, Tryd.ntmps34
  go_wp2
  exact ⟨rfl, _, by simp [results, Tryd.results34, go_sem]; rfl, rfl, rfl⟩

theorem low_small : ∀ c : Fin 128, (97 ≤ low c.1 ∧ low c.1 ≤ 102 ↔ (97 ≤ c.1 ∧ c.1 ≤ 102) ∨ (65 ≤ c.1 ∧ c.1 ≤ 70)) ∧ (97 ≤ c.1 ∧ c.1 ≤ 102 → low c.1 = c.1) ∧ (65 ≤ c.1 ∧ c.1 ≤ 70 → low c.1 = c.1 + 32) := by decide
theorem low_big {c : Nat} (h : 128 ≤ c) (h2 : c ≤ 1114111) : 102 < low c := by
  have h1 : (BitVec.ofInt IntKind.i32.bits 32 ||| BitVec.ofInt IntKind.i32.bits (c : Int)).toNat = 32 ||| c := by
    rw [BitVec.toNat_or]
    have e1 : (BitVec.ofInt IntKind.i32.bits 32).toNat = 32 := by decide
    have e2 : (BitVec.ofInt IntKind.i32.bits (c : Int)).toNat = c := by
      rw [BitVec.toNat_ofInt]
      show ((c : Int) % ((4294967296 : Nat) : Int)).toNat = c
      omega
    rw [e1, e2]
  have h3 : 32 ||| c < 2 ^ 21 := Nat.or_lt_two_pow (by decide) (by omega)
  have h4 : c ≤ 32 ||| c := Nat.right_le_or
  have h5 : low c = ((32 ||| c : Nat) : Int) := by
    show IntKind.i32.wrap ((BitVec.ofInt IntKind.i32.bits 32 ||| BitVec.ofInt IntKind.i32.bits (c : Int)).toNat : Int) = _
    rw [h1, IntWalk.i32_in _ (by omega)]
  rw [h5]
  omega

/-- What the two functions ask of a rune. -/
theorem low_hex {c : Nat} (h2 : c ≤ 1114111) : (97 ≤ low c ∧ low c ≤ 102 ↔ (97 ≤ c ∧ c ≤ 102) ∨ (65 ≤ c ∧ c ≤ 70)) ∧ (97 ≤ c ∧ c ≤ 102 → low c = c) ∧ (65 ≤ c ∧ c ≤ 70 → low c = c + 32) := by
  by_cases h : c < 128
  · exact low_small ⟨c, h⟩
  · have := low_big (by omega) h2
    exact ⟨⟨fun h => by omega, fun h => by omega⟩, fun h => by omega, fun h => by omega⟩

def HexPost (c : Nat) (W : World) (e : Ending) (W' : World) : Prop := ∃ r : Bool, e = .returned (.bool r) ∧ W' = W ∧ (r = true ↔ (hexR c).isSome = true)
def DecPost (c : Int) (W : World) (e : Ending) (W' : World) : Prop := ∃ r : Bool, e = .returned (.bool r) ∧ W' = W ∧ (r = true ↔ 48 ≤ c ∧ c ≤ 57)
theorem isDec_any (c : Int) (w : World) : Calls Tryd.prog 33 #[.int .i32 c] w (DecPost c w) := by
  by_cases h1 : 48 ≤ c
  · by_cases h2 : c ≤ 57
    · go_enter Tryd.func33, Tryd.ntmps33
      go_wp2
      exact ⟨rfl, _, by simp [results, Tryd.results33, go_sem], true, rfl, rfl, by simp; omega⟩
    · go_enter Tryd.func33, Tryd.ntmps33
      go_wp2
      exact ⟨rfl, _, by simp [results, Tryd.results33, go_sem], false, rfl, rfl, by simp; omega⟩
  · go_enter Tryd.func33, Tryd.ntmps33
    go_wp2
    exact ⟨rfl, _, by simp [results, Tryd.results33, go_sem], false, rfl, rfl, by simp; omega⟩

theorem isHex_any (c : Nat) (hc : c ≤ 1114111) (w : World) : Calls Tryd.prog 28 #[.int .i32 c] w (HexPost c w) := by
  obtain ⟨h1, h2, h3⟩ := low_hex hc
  go_enter Tryd.func28, Tryd.ntmps28
  go_wp2_with fail
  refine (isDec_any _ _).mono ?_
  rintro e w1 ⟨r, rfl, rfl, hr⟩
  cases r
  · have hd : ¬ (48 ≤ c ∧ c ≤ 57) := fun h => by have := hr.2 (by omega); cases this
    by_cases k1 : 97 ≤ low c
    · by_cases k2 : low c ≤ 102
      · have hp : HexPost c w1 (.returned (.bool true)) w1 := by
          refine ⟨true, rfl, rfl, iff_of_true rfl ?_⟩
          unfold hexR
          rw [if_neg hd]
          rcases h1.1 ⟨k1, k2⟩ with h | h
          · rw [if_pos h]; rfl
          · rw [if_neg (by omega), if_pos h]; rfl
        have HP := Go.Lib.hid hp
        clear hp h1 h2 h3
        go_wp2_with (go_at_call 34; refine (lower_any _ _).mono ?_; rintro e w1 ⟨rfl, rfl⟩)
        exact ⟨rfl, _, by simp [results, Tryd.results28, go_sem] <;> omega, HP.out⟩
      · have hp : HexPost c w1 (.returned (.bool false)) w1 := by
          have h5 : ¬ (97 ≤ c ∧ c ≤ 102) := fun h => k2 (h1.2 (.inl h)).2
          have h6 : ¬ (65 ≤ c ∧ c ≤ 70) := fun h => k2 (h1.2 (.inr h)).2
          exact ⟨false, rfl, rfl, iff_of_false Bool.false_ne_true (by unfold hexR; rw [if_neg hd, if_neg h5, if_neg h6]; simp)⟩
        have HP := Go.Lib.hid hp
        clear hp h1 h2 h3
        go_wp2_with (go_at_call 34; refine (lower_any _ _).mono ?_; rintro e w1 ⟨rfl, rfl⟩)
        exact ⟨rfl, _, by simp [results, Tryd.results28, go_sem] <;> omega, HP.out⟩
    · have hp : HexPost c w1 (.returned (.bool false)) w1 := by
        have h5 : ¬ (97 ≤ c ∧ c ≤ 102) := fun h => k1 (h1.2 (.inl h)).1
        have h6 : ¬ (65 ≤ c ∧ c ≤ 70) := fun h => k1 (h1.2 (.inr h)).1
        exact ⟨false, rfl, rfl, iff_of_false Bool.false_ne_true (by unfold hexR; rw [if_neg hd, if_neg h5, if_neg h6]; simp)⟩
      have HP := Go.Lib.hid hp
      clear hp h1 h2 h3
      go_wp2_with (go_at_call 34; refine (lower_any _ _).mono ?_; rintro e w1 ⟨rfl, rfl⟩)
      exact ⟨rfl, _, by simp [results, Tryd.results28, go_sem] <;> omega, HP.out⟩
  · have hd : 48 ≤ c ∧ c ≤ 57 := by have := hr.1 rfl; omega
    go_wp2
    exact ⟨rfl, _, by simp [results, Tryd.results28, go_sem], true, rfl, rfl, by unfold hexR; rw [if_pos hd]; simp⟩

def ValPost (c : Nat) (W : World) (e : Ending) (W' : World) : Prop := ∃ v : Nat, hexR c = some v ∧ e = .returned (.int .i64 v) ∧ W' = W
theorem val_any (c : Nat) (hc : (hexR c).isSome = true) (w : World) : Calls Tryd.prog 29 #[.int .i32 c] w (ValPost c w) := by
  obtain ⟨v, hv⟩ := Option.isSome_iff_exists.1 hc
  have hlt := hexR_lt hv
  obtain ⟨h1, h2, h3⟩ := low_hex (c := c) (by omega)
  by_cases k0 : 48 ≤ c ∧ c ≤ 57
  · have e0 : IntKind.i32.wrap ((c : Int) - 48) = (c : Int) - 48 := IntWalk.i32_in _ (by omega)
    have e1 : IntKind.i64.wrap ((c : Int) - 48) = ((c - 48 : Nat) : Int) := by rw [IntKind.wrap_i64]; omega
    obtain ⟨k1, k2⟩ := k0
    have hr : hexR c = some (c - 48) := by unfold hexR; rw [if_pos ⟨k1, k2⟩]
    go_enter Tryd.func29, Tryd.ntmps29
    go_wp2
    exact ⟨rfl, _, by simp [results, Tryd.results29, go_sem]; rfl, c - 48, hr, by first | rfl | simp [e1], rfl⟩
  · have hr0 : (97 ≤ c ∧ c ≤ 102 ∧ v = c - 87 ∧ low c = c) ∨ (65 ≤ c ∧ c ≤ 70 ∧ v = c - 55 ∧ low c = c + 32) := by
      unfold hexR at hv
      rw [if_neg k0] at hv
      split at hv
      · rename_i h; simp at hv; exact .inl ⟨h.1, h.2, hv.symm, h2 h⟩
      · split at hv
        · rename_i h; simp at hv; exact .inr ⟨h.1, h.2, hv.symm, h3 h⟩
        · cases hv
    have hlow : 97 ≤ low c ∧ low c ≤ 102 ∧ low c - 97 + 10 = v := by rcases hr0 with ⟨a, b, e, f⟩ | ⟨a, b, e, f⟩ <;> rw [f] <;> omega
    obtain ⟨m1, m2, m3⟩ := hlow
    have HL := Go.Lib.hid (fun w => lower_any (c : Int) w)
    have kk : (57 : Int) < (c : Int) := by rcases hr0 with ⟨a, _⟩ | ⟨a, _⟩ <;> omega
    have HV := Go.Lib.hid hv
    clear h1 h2 h3 hr0 hv k0 hc hlt
    generalize low c = lc at *
    have e0 : IntKind.i32.wrap (lc - 97) = lc - 97 := IntWalk.i32_in _ (by omega)
    have e1 : IntKind.i32.wrap (lc - 97 + 10) = lc - 97 + 10 := IntWalk.i32_in _ (by omega)
    have e2 : IntKind.i64.wrap (lc - 97 + 10) = lc - 97 + 10 := by rw [IntKind.wrap_i64]; omega
    go_enter Tryd.func29, Tryd.ntmps29
    go_wp2_with (go_at_call 34; refine (HL.out _).mono ?_; rintro e w1 ⟨rfl, rfl⟩)
    exact ⟨rfl, _, by simp [results, Tryd.results29, go_sem]; rfl, v, HV.out, by rw [← m3], rfl⟩

end Go.Proofs.YthklhdeegmanbaaDoor.Esc

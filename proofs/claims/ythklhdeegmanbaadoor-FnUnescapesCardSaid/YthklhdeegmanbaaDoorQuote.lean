/-
  rust.Unquote, walked: it answers as the plain reading does.
  Conditions: sizes.
-/
import Derived.Test.YthklhdeegmanbaaDoorUni
import Derived.Deep.RegionWith
namespace Go.Proofs.YthklhdeegmanbaaDoor.Esc
open Go Go.ChangeShapes Go.WideShapes Go.ChangeAt Go.RowKit

theorem gr_since {w w' : World} (h : Since w w') : w.grownBy w' none := ⟨h.os, h.tape, h.output, h.size, fun i hi _ => h.block i hi⟩
theorem build_since {B b : Nat} {xs : List Value} {w w' : World} (h : Build B b xs w) (k : Since w w') : Build B b xs w' := by
  have go : ∀ p, Lib.BuilderAtF 47 5 B b p xs w → Lib.BuilderAtF 47 5 B b p xs w' := by
    rintro p ⟨h1, v, h2, h3, h4⟩
    refine ⟨h1, v, (k.block b (Array.getElem?_eq_some_iff.1 h2).1).trans h2, h3.kept (gr_since k) ?_, h4⟩
    cases v.ownBlock
    · exact .inl rfl
    · exact .inr (by simp)
  rcases h with h | h
  · exact .inl (go _ h)
  · exact .inr (go _ h)
theorem since_below {W0 w w' : World} (h : Since W0 w) (k : Below W0.heap.size w w') : Since W0 w' := Below.trans h k
theorem build_new (w : World) : Build w.heap.size w.heap.size [] (w.alloc (.cells #[.pointer none, .slice none 0 0] 47)) :=
  .inl ⟨Nat.le_refl _, .slice none 0 0, (MapKept.heap_alloc w _).1, World.ownsRowF_nil _ _ _ _, by simp [Value.ownBlock]⟩
theorem cells_rune (acc : Bs) (r : Int) : Lib.byteCells acc ++ Lib.runeCells r = Lib.byteCells (acc ++ Lib.encodeRune r) := by rw [Lib.byteCells_append, Lib.byteCells_encodeRune]

def QRel (l : Bs) (star : Bool) (n : Nat) (W : World) (iv : Value) (wr : World) : Prop :=
  ∃ (i : Nat) (acc : Bs), iv = .int .i64 i ∧ i ≤ n ∧ Good (l.drop i) ∧ unq star l = prep acc (unq star (l.drop i)) ∧ acc.length ≤ 4 * i ∧ Build W.heap.size W.heap.size (Lib.byteCells acc) wr ∧ Since W wr
theorem enc_len (r : Int) : (Lib.encodeRune r).length ≤ 4 := by
  have := (Lib.encodeRuneZ_length r).2
  simpa [Lib.encodeRune] using this

theorem q_esc {l : Bs} {star : Bool} {n k i' : Nat} {z : Int} {W w' : World} {acc r t' : Bs} {x : UInt8} {c : Int} (hn : l.length = n) (hd : l.drop k = x :: r) (hx : x.toNat = 92) (hg : Good (l.drop k)) (hq : unq star l = prep acc (unq star (l.drop k))) (hal : acc.length ≤ 4 * k)
    (he : esc star r = some (c, t')) (hi : i' ≤ n) (hdi : l.drop i' = t') (hz : z = (i' : Int)) (hbu : Build W.heap.size W.heap.size (Lib.byteCells acc ++ Lib.runeCells c) w') (hs : Since W w') : QRel l star n W (.int .i64 z) w' := by
  subst hz
  have hk : k < i' := by
    have h1 := esc_len he
    rw [← hdi, List.length_drop] at h1
    have h2 := congrArg List.length hd
    rw [List.length_drop, List.length_cons] at h2
    omega
  have h4 := enc_len c
  refine ⟨i', acc ++ Lib.encodeRune c, rfl, hi, ?_, ?_, by rw [List.length_append]; omega, by rw [← cells_rune]; exact hbu, hs⟩
  · rw [hd] at hg
    rw [hdi]
    exact esc_good (good_cons (by omega) hg) he
  · rw [hq, hd, unq_esc hx he, prep_prep, hdi]
theorem q_plain {l : Bs} {star : Bool} {n k : Nat} {z : Int} {W w' : World} {acc r : Bs} {x : UInt8} (hn : l.length = n) (hd : l.drop k = x :: r) (h1 : ¬ (star = true ∧ x.toNat = 42)) (h2 : x.toNat ≠ 92) (hg : Good (l.drop k)) (hq : unq star l = prep acc (unq star (l.drop k))) (hal : acc.length ≤ 4 * k)
    (hz : z = (k : Int) + ((Lib.decodeL (x :: r)).2 : Int)) (hbu : Build W.heap.size W.heap.size (Lib.byteCells acc ++ Lib.runeCells ((Lib.decodeL (x :: r)).1 : Int)) w') (hs : Since W w') : QRel l star n W (.int .i64 z) w' := by
  have hne : x :: r ≠ [] := by simp
  have hw := Lib.decodeL_width (x :: r)
  have hle := Lib.decodeL_le (x :: r) hne
  have hl := congrArg List.length hd
  rw [List.length_drop] at hl
  rw [hd] at hg hq
  obtain ⟨hd1, hg2⟩ := good_drop hne hg
  have h4 := enc_len ((Lib.decodeL (x :: r)).1 : Int)
  have e1 : l.drop (k + (Lib.decodeL (x :: r)).2) = (x :: r).drop (Lib.decodeL (x :: r)).2 := by rw [← List.drop_drop, hd]
  refine ⟨k + (Lib.decodeL (x :: r)).2, acc ++ Lib.encodeRune ((Lib.decodeL (x :: r)).1 : Int), by rw [hz]; simp, by omega, by rw [e1]; exact hg2, ?_, by rw [List.length_append]; omega, by rw [← cells_rune]; exact hbu, hs⟩
  rw [hq, unq_plain h1 h2, prep_prep, e1, encode_first hne hd1]
theorem q_bad {l : Bs} {star : Bool} {k : Nat} {acc r : Bs} {x : UInt8} (hd : l.drop k = x :: r) (hx : x.toNat = 92) (hq : unq star l = prep acc (unq star (l.drop k))) (he : esc star r = none) : unq star l = none := by
  rw [hq, hd, unq_bad hx he]
  rfl

def Tail (b o : Nat) (A : Option Addr) (i m : Nat) : Prop := m = 0 ∨ A = some ⟨b, o + i, none⟩
def QPost (l : Bs) (star : Bool) (b o : Nat) (W : World) (e : Ending) (W' : World) : Prop :=
  Since W W' ∧ ((unq star l = none ∧ ∃ (t : TypeId) (v : Value), e = .returned (.tuple #[.string ⟨#[]⟩, .slice none 0 0, .iface t v])) ∨
    (∃ (s : Bs) (i m c : Nat) (A : Option Addr), unq star l = some (s, l.drop i) ∧ m = (l.drop i).length ∧ Tail b o A i m ∧ e = .returned (.tuple #[.string (bs s), .slice A m c, .nilIface])))
theorem esc_simple {star : Bool} {y : UInt8} {t : Bs} : (y.toNat = 110 → esc star (y :: t) = some (10, t)) ∧ (y.toNat = 114 → esc star (y :: t) = some (13, t)) ∧ (y.toNat = 116 → esc star (y :: t) = some (9, t)) ∧ (y.toNat = 92 → esc star (y :: t) = some (92, t)) ∧
    (y.toNat = 48 → esc star (y :: t) = some (0, t)) ∧ (y.toNat = 39 → esc star (y :: t) = some (39, t)) ∧ (y.toNat = 34 → esc star (y :: t) = some (34, t)) ∧ (y.toNat = 120 → esc star (y :: t) = hex2 t) ∧ (y.toNat = 117 → esc star (y :: t) = uni t) ∧
    (y.toNat = 42 → esc star (y :: t) = if star then some (42, t) else none) := by
  refine ⟨?_, ?_, ?_, ?_, ?_, ?_, ?_, ?_, ?_, ?_⟩ <;> intro h <;> unfold esc <;> simp [h]
theorem esc_other {star : Bool} {y : UInt8} {t : Bs} (h : y.toNat ≠ 110 ∧ y.toNat ≠ 114 ∧ y.toNat ≠ 116 ∧ y.toNat ≠ 92 ∧ y.toNat ≠ 48 ∧ y.toNat ≠ 39 ∧ y.toNat ≠ 34 ∧ y.toNat ≠ 120 ∧ y.toNat ≠ 117 ∧ y.toNat ≠ 42) : esc star (y :: t) = none := by
  unfold esc
  simp [h]
theorem rune_is {y : UInt8} {t : Bs} {c : Nat} (hc : c < 128) (h : y.toNat = c) : Lib.decodeL (y :: t) = (c, 1) := by
  rcases first_rune (x := y) (r := t) with ⟨_, e⟩ | ⟨h1, _⟩
  · rw [e, h]
  · omega
theorem rune_not {y : UInt8} {t : Bs} {c : Nat} (hc : c < 128) (h : y.toNat ≠ c) : ¬ ((Lib.decodeL (y :: t)).1 : Int) = (c : Int) := by
  rcases first_rune (x := y) (r := t) with ⟨_, e⟩ | ⟨_, e⟩
  · rw [e]; simp only; omega
  · omega

theorem hex2_rune {l t : Bs} {c : Int} (h : hex2 l = some (c, t)) : 0 ≤ c ∧ c ≤ 127 := by
  unfold hex2 at h
  split at h
  · split at h
    · split at h
      · simp at h; omega
      · cases h
    · cases h
  · cases h
theorem uni_rune {l t : Bs} {c : Int} (h : uni l = some (c, t)) : 0 ≤ c ∧ c ≤ 1114111 := by
  unfold uni at h
  split at h
  · split at h
    · split at h
      · split at h
        · rename_i hc
          simp at h
          have := hc.2.2.2
          simp [Lib.validRune] at this
          omega
        · cases h
      · cases h
    · cases h
  · cases h

end Go.Proofs.YthklhdeegmanbaaDoor.Esc

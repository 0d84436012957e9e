/-
  The function digits of the laws returns the digits of a number, with zeros ahead of it up to a width.
  Conditions: the number fits 64 bits, the width is at most 1000.
-/
import Derived.Test.YtlcalmdjgllkcaaDoorRows
import Derived.Test.YtlcalmdjgllkcaaDoorPlain
import Derived.WalkKit
import Derived.WalkSpells
import Derived.WalkLawsBesides
import Derived.ProofKit
import Derived.Lib.Hide
import Derived.Outline
namespace Go.Proofs.YtlcalmdjgllkcaaDoor
open Go.ChangeShapes Go.WideShapes Go.ChangeAt Go.RowKit

def strLen : Value → Nat | .string s => s.size | _ => 0

def DigPost (n w : Nat) (W : World) (e : Ending) (W' : World) : Prop :=
  ∃ s : ByteArray, e = .returned (.string s) ∧ Digs s.data.toList ∧ num s.data.toList = n ∧ s.size ≤ max 20 w ∧ w ≤ s.size ∧ (n < 10 ^ w → s.size ≤ w) ∧ Below W.heap.size W W'

/-- One byte as a string. -/
theorem one_byte (x : Int) (w : World) : (convert 31 9 (.slice (some ⟨w.heap.size, 0, none⟩) 1 1)).run Tryd.prog (w.alloc (.cells #[.int .u8 x] 5)) =
    .ok (.string ⟨#[UInt8.ofNat x.toNat]⟩) (w.alloc (.cells #[.int .u8 x] 5)) := by
  have := run_convert_bytes_arg (P := Tryd.prog) (w.alloc (.cells #[.int .u8 x] 5)) 31 5 Tryd.underlying31 Tryd.underlying5 w.heap.size 0 1 1 [x] rfl (by
    intro i hi
    obtain rfl : i = 0 := by omega
    rw [World.cell?_alloc_at _ _ _ _ rfl]; rfl) 9 Tryd.underlying9
  exact this

theorem step_data (c : UInt8) (s : ByteArray) : ((⟨#[c]⟩ : ByteArray) ++ s).data.toList = c :: s.data.toList := by simp [ByteArray.data_append]

theorem one_size (c : UInt8) (s : ByteArray) : ((⟨#[c]⟩ : ByteArray) ++ s).size = s.size + 1 := by
  rw [ByteArray.size_append]
  show 1 + s.size = _
  omega
theorem drel_wide (n0 w n : Nat) (l : List UInt8) (h : DRel n0 w n l) : n0 < 10 ^ w → (0 < n ∨ l.length < w) → l.length < w := by
  intro h0 hc
  rcases hc with hc | hc
  · obtain ⟨_, h2, _, _⟩ := h
    rcases Nat.lt_or_ge l.length w with h' | h'
    · exact h'
    · have h3 : 10 ^ w ≤ 10 ^ l.length := Nat.pow_le_pow_right (by decide) h'
      have h4 : 1 * 10 ^ l.length ≤ n * 10 ^ l.length := Nat.mul_le_mul_right _ hc
      omega
  · exact hc

set_option maxHeartbeats 400000 in
theorem digits_any (n w : Nat) (hn : n < 18446744073709551616) (hw : w ≤ 1000) (W : World) :
    Calls Tryd.prog 5 #[.int .u64 n, .int .i64 w] W (DigPost n w W) := by
  have hcv := one_byte
  go_enter Tryd.func5, Tryd.ntmps5
  go_wp2
  go_loopw [0, 5] (fun nv sv wr => ∃ (k : Nat) (s : ByteArray), nv = .int .u64 k ∧ sv = .string s ∧ DRel n w k s.data.toList ∧ (n < 10 ^ w → s.size ≤ w) ∧ Below W.heap.size W wr)
    (fun nv sv _ => (intOf nv).toNat + (w - strLen sv))
  case atStart => exact ⟨n, ByteArray.empty, rfl, rfl, drel_start n w hn, fun _ => Nat.zero_le _, Below.refl _ _⟩
  case round =>
    obtain ⟨k, s, rfl, rfl, hr, hwid, hb⟩ := hrel
    have hnext := drel_wide n w k s.data.toList hr
    have HWID := Go.Lib.hid hwid
    have HNEXT := Go.Lib.hid hnext
    clear hwid hnext
    have hs : s.size ≤ 1000 := by have := hr.2.2.1; simp at this; omega
    have hlen : s.data.toList.length = s.size := by simp
    have hkn := drel_le n w k _ hr
    have hkb : (k : Int) ≤ 18446744073709551615 := by omega
    by_cases hc : 0 < k ∨ s.size < w
    · have hr2 := drel_step n w k s.data.toList hr (by rw [hlen]; exact hc)
      clear hr
      by_cases hk : 0 < k
      · clear hc
        go_wp2
        go_roundw
        case rel => exact ⟨k / 10, _, by go_num, rfl, by rw [step_data, dbyte_eq]; exact hr2, fun h => by rw [one_size]; have := HNEXT.out h (.inl hk); rw [hlen] at this; omega, hb.alloc hb.size _⟩
        case measure => simp [intOf, strLen]; omega
      · have hk0 : k = 0 := by omega
        have hsw : s.size < w := by omega
        subst hk0
        clear hc hk
        go_wp2
        go_roundw
        case rel => exact ⟨0, _, rfl, rfl, by rw [step_data]; exact hr2, fun h => by rw [one_size]; omega, hb.alloc hb.size _⟩
        case measure => have e1 : (ByteArray.mk #[48]).size = 1 := rfl; simp [intOf, strLen, e1]; omega
    · have hk0 : k = 0 := by omega
      have hsw : ¬ s.size < w := by omega
      subst hk0
      obtain ⟨g1, g2, g3⟩ := drel_end n w _ hr
      clear hc
      go_wp2
      go_ret
      exact ⟨s, rfl, g1, g2, by rw [← hlen]; exact g3, by omega, HWID.out, hb⟩

end Go.Proofs.YtlcalmdjgllkcaaDoor

/-
  For all pieces, strings and choices of a place the law FnMatchMore returns true and leaves its arguments as they were: a wildcard more, anywhere in a pattern, loses no string that matches; a wildcard alone matches each.
  Conditions: none beyond those of the given row.
-/
import Derived.Test.YtgliaglnblhinaaTail
import Derived.WalkKit
import Derived.ProofKit
import Derived.OpenShut
import Derived.Outline
import Derived.ShutString
import Derived.Below
namespace Go.Proofs.Ytgliaglnblhinaa
namespace fnMatchMore
open Go Go.ChangeShapes Go.WideShapes Go.ChangeAt Go.RowKit Go.Maps Go.WideMaps Pat

theorem walk (ps : List Bs) (A : Option Addr) (cap : Nat) (s : ByteArray) (a2 a3 : Int) (hn : ps.length ≤ maxLen) (hcap : ps.length ≤ cap) (hA : A = none → ps.length = 0 ∧ cap = 0)
    (w2 : (Lit.int .u8 a2).wf = true) (w3 : (Lit.int .u8 a3).wf = true) (W : World) (hseq : Seq W 1 A ps.length (ps.map fun p => .string (bs p))) :
    Calls Try.prog 5 #[.slice A ps.length cap, .string s, .int .u8 a2, .int .u8 a3] W fun e w' => e = .returned (.bool true) ∧ Below W.heap.size W w' := by
  have b2 := bounds_u8 w2
  have b3 := bounds_u8 w3
  obtain ⟨u, rfl⟩ := Int.eq_ofNat_of_zero_le b2.1
  obtain ⟨v, rfl⟩ := Int.eq_ofNat_of_zero_le b3.1
  exact front.h tail ps A cap s u v W hn (by omega) (by omega) hcap hA hseq

section
variable {H : Type} {enc : TypeId × Value → H} {W : World}
theorem open_pieces {a0 : Option Addr} {len cap : Nat} {d : DataW H} {p : List MemPlace} (h : DataW.Trod enc Try.prog W 0 (fun _ => true) true 28 (.slice a0 len cap) d p) :
    ∃ ps : List Bs, ps.length = len ∧ len ≤ maxLen ∧ len ≤ cap ∧ (a0 = none → len = 0 ∧ cap = 0) ∧ Seq W 1 a0 len (ps.map fun p => .string (bs p)) := by
  obtain ⟨fuel, hf⟩ := h
  have hf' : DataW.trod enc Try.prog W 0 (fun _ => true) true fuel 28 [.slice a0 len cap] = some (d, p) := hf
  rcases open_strings Try.underlying28 Try.underlying9 (by kernel_rfl) hf' with ⟨hcs, hx⟩ | ⟨a, len', cap', ss, hcs, _, hl, hm, hz, hx, hcell, _⟩
  · simp at hcs
    obtain ⟨rfl, rfl, rfl⟩ := hcs
    exact ⟨[], rfl, Nat.zero_le _, Nat.le_refl _, fun _ => ⟨rfl, rfl⟩, Seq.nil _ _ _⟩
  · simp at hcs
    obtain ⟨rfl, rfl, rfl⟩ := hcs
    simp only [if_true] at hz
    obtain ⟨b, off, spot⟩ := a
    refine ⟨(ss.take len).map fun s => s.data.toList, by simp; omega, by omega, hl, (fun h => by cases h), by simp; omega, ?_⟩
    by_cases h0 : len = 0
    · exact .inl h0
    · have hspot : spot = none := by simpa [Addr.add] using World.cell?_spot (hcell 0 (by omega))
      subst hspot
      refine .inr ⟨b, off, rfl, fun j u hu => ?_⟩
      rw [List.map_map, List.getElem?_map] at hu
      rcases hj : (ss.take len)[j]? with _ | X
      · rw [hj] at hu; cases hu
      · rw [hj] at hu
        simp at hu
        subst hu
        rw [List.getElem?_take] at hj
        split at hj
        · have hjl : j < ss.length := by omega
          have hc := hcell j hjl
          rw [List.getElem?_eq_getElem hjl] at hj
          injection hj with hj
          rw [addr_add] at hc
          rw [hc, List.getD_eq_getElem?_getD, List.getElem?_eq_getElem hjl, hj]
          rfl
        · cases hj
end

theorem own : ownKnob Try.prog.godebug = none := by kernel_rfl
theorem laidOut : laidOutB Try.prog = true := by kernel_rfl

set_option maxRecDepth 100000 in
theorem lifted (os : Os) (started : os.Started) (H : Type) (enc : TypeId × Value → H) :
    ReturnsInHanded {} Try.checked os 5 .any (Rows.fnMatchMoreSpec.pre6 enc Try.prog Try.f5 Rows.fnMatchMoreRow.domain false) (Rows.fnMatchMoreSpec.post enc Try.prog Try.f5 false true false false) := by
  refine returnsInHanded_of_change (C := Try.checked) own started (by kernel_rfl) Try.func5
    (ChangeSpec.witness6 (enc := enc) (C := Try.checked) false ⟨#[], #[.slice none 0 0, .string ByteArray.empty, .int .u8 0, .int .u8 0], []⟩ 8 (by kernel_rfl) (by kernel_rfl) (by kernel_rfl) (by kernel_rfl)) ?_
  intro W base args ds gs before hval0 hW hcnd _
  have hval : ∀ (j : Nat) t v, Try.f5.params[j]? = some t → args[j]? = some v → Value.okWide Try.prog W .any base t v := hval0
  have hW' := hW
  obtain ⟨p, q, hA0, hV, rfl, hfz, hnd⟩ := hW
  have hA : DataW.TrodAll enc Try.prog W 0 (fun _ => true) true Try.f5.params.toList args.toList ds p := hA0
  rw [Try.params5] at hA hval
  obtain ⟨v0, vs0, d0, ds0, p0, q0, hargs, rfl, rfl, h0, r0⟩ := trodAll_cons hA
  obtain ⟨v1, vs1, d1, ds1, p1, q1, rfl, rfl, rfl, h1, r1⟩ := trodAll_cons r0
  obtain ⟨v2, vs2, d2, ds2, p2, q2, rfl, rfl, rfl, h2, r2⟩ := trodAll_cons r1
  obtain ⟨v3, vs3, d3, ds3, p3, q3, rfl, rfl, rfl, h3, r3⟩ := trodAll_cons r2
  obtain ⟨rfl, rfl, rfl⟩ := trodAll_nil r3
  obtain rfl : args = #[v0, v1, v2, v3] := by cases args; simp_all
  obtain ⟨rfl, rfl⟩ := trodVars_none hV
  obtain ⟨A, len, cap, rfl⟩ := okWide_slice Try.underlying28 (hval 0 28 v0 rfl rfl)
  obtain ⟨ps, rfl, g1, g2, g3, g4⟩ := open_pieces h0
  have k0 := h0
  have lt0 : ∀ x ∈ p0, x.block < W.heap.size := by obtain ⟨m, hm⟩ := k0; exact DataW.trod_lt m _ _ _ hm
  obtain ⟨a1, rfl, rfl, rfl, w1⟩ := Go.ChangeMaps.open_string Try.underlying9 (hval 1 9 v1 rfl rfl) h1
  obtain ⟨a2, rfl, rfl, rfl, w2⟩ := open_int Try.underlying5 (hval 2 5 v2 rfl rfl) h2
  obtain ⟨a3, rfl, rfl, rfl, w3⟩ := open_int Try.underlying5 (hval 3 5 v3 rfl rfl) h3
  clear hA0 hval0
  try simp only [List.append_nil] at hW'
  refine (walk ps A cap a1 a2 a3 g1 g2 g3 w2 w3 W g4).mono fun e W' ⟨he, bel⟩ => ?_
  subst he
  exact ⟨_, rfl, _, _, _, [], _, [], hW', trodAll_mk1 (shut_bool Try.underlying4 _), (trodAll_cons_mk (Below.trod laidOut (by kernel_rfl) (of_decide_eq_true (by kernel_rfl)) k0 bel lt0) (trodAll_cons_mk (Go.ChangeMaps.shut_string Try.underlying9 w1) (trodAll_cons_mk (shut_int Try.underlying5 w2) (trodAll_cons_mk (shut_int Try.underlying5 w3) trodAll_mk0)))), rfl, bel.frame _, fun h => by cases h⟩

theorem over : Rows.fnMatchMoreRow.holds Try.pinned (OpenSpec.ofChange Rows.fnMatchMoreSpec) :=
  OpenClaim.holds_of_wide 5 Try.f5 rfl rfl rfl rfl rfl rfl rfl ⟨rfl, rfl, rfl, rfl, rfl⟩ rfl rfl rfl rfl rfl (by kernel_rfl) Try.func5 (by kernel_rfl)
    (of_decide_eq_true (by kernel_rfl)) (by unfold Func.isWrapper; first | (rw [if_pos (by decide +kernel)]; kernel_rfl) | (rw [if_neg (by decide +kernel)]; exact ⟨rfl, rfl⟩))
    (fun os started H enc _ => lifted os started H enc)

theorem proved : Rows.FnMatchMoreSaid := over
#print axioms proved

end fnMatchMore
end Go.Proofs.Ytgliaglnblhinaa

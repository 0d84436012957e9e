/-
  What the laid variables hold, as the walks ask for it.
  Conditions: none.
-/
import Derived.Test.YtlcalmdjgllkcaaDoorBits
import Derived.Test.YtlcalmdjgllkcaaDoorCards
import Derived.Lib.LaidU8T
import Derived.MakeChecks
import Derived.Stop.Joined
import Derived.Stop.LaidErr
import Derived.OpenShut
import Derived.LaidMore
namespace Go.Proofs.YtlcalmdjgllkcaaDoor.Dec
open Go Go.Shelf Go.Lib Go.ChangeShapes Go.WideShapes Go.ChangeAt Go.RowKit

theorem row82 (u : TypeId) (h : Tryd.prog.typeName? 3 u = some "*errors.errorString") : u = 82 :=
  typeName_ptr_named (nm := "errors.errorString") (by rw [show "*" ++ "errors.errorString" = "*errors.errorString" from by decide]; kernel_rfl) (by kernel_rfl) (by decide) u (by rw [show "*" ++ "errors.errorString" = "*errors.errorString" from by decide]; exact h)

/-- A float row of a laid array, read back. -/
theorem float_at {W : World} {name : String} {g t n : Nat} {ds : List (DataW Unit)} (hg : Tryd.prog.globalNamed name = some g) (hy : (Tryd.prog.globals[g]?).map (·.type) = some t)
    (ht : Tryd.prog.underlying t = some (.array n 48)) (h : VarReads Tryd.prog W name (.agg ds)) (i : Nat) (hi : i < n) {x : Nat} (hd : ds[i]? = some (.lit (.float .f64 x))) :
    W.cell? ⟨g, i, none⟩ = some (.float .f64 x) := by
  obtain ⟨g', t', cs, fuel, p, hg', hty, hvar, htr⟩ := h
  obtain rfl := Option.some.inj (hg.symm.trans hg')
  obtain rfl := Option.some.inj (hy.symm.trans hty)
  obtain ⟨fuel', d, q, hdi, he⟩ := array_elem ht htr i hi
  obtain rfl := Option.some.inj (hd.symm.trans hdi)
  have c48 : Tryd.prog.cellsOf 48 = 1 := by kernel_rfl
  have u48 : Tryd.prog.underlying 48 = some (.float .f64) := by kernel_rfl
  rw [c48, Nat.mul_one] at he
  rw [World.var?_cell hg hvar i, ← Array.getElem?_toList]
  cases hfl : fuel' with
  | zero => subst hfl; simp [DataW.trod] at he
  | succ m =>
    subst hfl
    unfold DataW.trod at he
    rw [u48] at he
    split at he <;> simp_all
    rename_i hl
    have := congrArg (fun l : List Value => l[0]?) hl
    simpa using this

theorem decW_met {W : World} {ld : List (String × DataW Unit)} (hl : ld = Rows.fnDecimalDigitsRow.laid) (hL : laidMetH Tryd.prog ld W) : DecW W := by
  subst hl
  rw [MakeChecks.laidMetH_plain _ _ _ (by kernel_rfl)] at hL
  have R2 := Lib.laidMet.reads hL (.tail _ (.tail _ (.tail _ (.tail _ (.head _)))))
  have R3 := Lib.laidMet.reads hL (.tail _ (.tail _ (.tail _ (.head _))))
  obtain ⟨a0, s0, hv0, _, _, _⟩ := laid_sentinel hL.tail.tail.tail.tail.tail.tail (g := 0) (ti := 35) (by kernel_rfl) (by kernel_rfl) (ms := #[("Error", 41)]) (by kernel_rfl) row82 (te := 84) (f := { name := "s", type := 9, offset := 0, embedded := false, tag := "", pkgPath := "errors", byteOffset := 0 }) (by kernel_rfl) (by kernel_rfl) rfl rfl (ts := 9) (by kernel_rfl) (by kernel_rfl) (by kernel_rfl)
  obtain ⟨a1, s1, hv1, _, _, _⟩ := laid_sentinel hL.tail.tail.tail.tail.tail.tail.tail (g := 6) (ti := 35) (by kernel_rfl) (by kernel_rfl) (ms := #[("Error", 41)]) (by kernel_rfl) row82 (te := 84) (f := { name := "s", type := 9, offset := 0, embedded := false, tag := "", pkgPath := "errors", byteOffset := 0 }) (by kernel_rfl) (by kernel_rfl) rfl rfl (ts := 9) (by kernel_rfl) (by kernel_rfl) (by kernel_rfl)
  refine ⟨⟨82, .pointer (some a0), ?_⟩, ⟨82, .pointer (some a1), ?_⟩, ?_, ?_⟩
  · simpa using World.var?_cell (g := 0) (by kernel_rfl) hv0 0
  · simpa using World.var?_cell (g := 6) (by kernel_rfl) hv1 0
  · exact float_at (t := 54) (n := 10) (by kernel_rfl) (by kernel_rfl) (by kernel_rfl) R2 0 (by omega) rfl
  · exact float_at (t := 56) (n := 32) (by kernel_rfl) (by kernel_rfl) (by kernel_rfl) R3 0 (by omega) rfl

end Go.Proofs.YtlcalmdjgllkcaaDoor.Dec

/-
  NARROWER THAN 'FOR EVERY INPUT', by the rows' own cells (each row's printed sentence says how): FnUIDSteps: laid · FnDurationSums: laid · FnDurationUnit: laid.
  DERIVED. THE GIVEN ROWS OF THIS SEAT. 3 by the template 'for every input the law returns true; each argument reads behind the call as it read before'; 0 by the template 'total and deterministic' (their statements: YtgliaglnblhinaaDoorTotals.lean).
  GIVEN WITH THE SEED: the statements are not yours to turn. If you find one false, say at which input.
  Laid BY PROGRAM, IN A SANDBOX (cutbox-rows.mjs): the forced cells as the released guide's own fill.sh prints them over the translation 5e59f61b9c89ca31… (all of the seat's roots in one cut). By AI agents, Wed Nov 11 2026. No macro, syntax, notation, axiom, sorry.
-/
import Derived.Test.YtgliaglnblhinaaDoorChecked
import GoSem.Claim
import GoSem.ClaimJoined
import GoSem.ClaimMapViews
import Derived.JoinedTies
import Derived.KernelRfl
namespace Go.Proofs.YtgliaglnblhinaaDoor
/- THE CELL 'sum', in the pinned program and in every row, IS THE sha256 OF THE DUMP (.gsa) THAT YtgliaglnblhinaaDoorProg.lean LOADS. Nothing in Lean hashes anything: it is a label: what it is worth is what the hold of that sum in a sandbox is worth. -/
noncomputable def Tryd.pinned : Pinned := { name := "ytgliaglnblhinaadoor", sum := "5e59f61b9c89ca31beec6f3a72766b6d103f199d72455908a31b7c7db7e58a84", checked := Tryd.checked }
namespace Rows
def none {H : Type} : Left H := { results := [], args := [] }

/- WHAT THE LISTED PACKAGE-LEVEL VARIABLES READ AS WHEN THE CALL BEGINS. Each datum BY PROGRAM (the guide's laid-datum.mjs) off the statement by which the dump's own 'gosem.cut.vars' lays the variable. In a bare row this is a premise. The card (YtgliaglnblhinaaDoorCards.lean) ties it to the program's text. -/
def laid_pub_claviger_pub_cedargo_inner_mapset_peppercorn {H : Type} : DataW H := .agg []
def laid_pub_claviger_pub_cedargo_inner_ErrDuration {H : Type} : DataW H := .iface "*errors.errorString" (.ptr (.agg [.lit (.string [101, 114, 114, 111, 114, 32, 112, 97, 114, 115, 105, 110, 103, 32, 100, 117, 114, 97, 116, 105, 111, 110, 32, 118, 97, 108, 117, 101])]))

/-- 'laws.FnUIDSteps': WHATEVER THE INPUT: true; the input reads as it did. -/
def fnUIDStepsSpec : ChangeSpec := { name := "fnUIDSteps", fn := fun _ => fun
  | [d] => { results := [.lit (.bool true)], args := [d] }
  | _ => none }
def fnUIDStepsRow : OpenClaim := { program := "ytgliaglnblhinaadoor", sum := "5e59f61b9c89ca31beec6f3a72766b6d103f199d72455908a31b7c7db7e58a84", func := "pub-claviger/laws.FnUIDSteps", spec := "fnUIDSteps", named := ["pub-claviger/pub/cedargo/inner/mapset.peppercorn"], plainKeys := false, apart := false, laid := [("pub-claviger/pub/cedargo/inner/mapset.peppercorn", laid_pub_claviger_pub_cedargo_inner_mapset_peppercorn)] }
def FnUIDStepsSaid : Prop := fnUIDStepsRow.holds Tryd.pinned (OpenSpec.ofChange fnUIDStepsSpec)

/-- ITS FALSE NEIGHBOUR: 'it returns false'. Refute it at one input. -/
def fnUIDStepsWrong : ChangeSpec := { name := "fnUIDSteps", fn := fun _ => fun
  | [d] => { results := [.lit (.bool false)], args := [d] }
  | _ => none }
def FnUIDStepsWrongFalsely : Prop := fnUIDStepsRow.holds Tryd.pinned (OpenSpec.ofChange fnUIDStepsWrong)

/-- 'laws.FnDurationSums': WHATEVER THE INPUT: true; the input reads as it did. -/
def fnDurationSumsSpec : ChangeSpec := { name := "fnDurationSums", fn := fun _ => fun
  | [d1, d2, d3] => { results := [.lit (.bool true)], args := [d1, d2, d3] }
  | _ => none }
def fnDurationSumsRow : OpenClaim := { program := "ytgliaglnblhinaadoor", sum := "5e59f61b9c89ca31beec6f3a72766b6d103f199d72455908a31b7c7db7e58a84", func := "pub-claviger/laws.FnDurationSums", spec := "fnDurationSums", named := ["pub-claviger/pub/cedargo/inner.ErrDuration"], plainKeys := false, apart := false, laid := [("pub-claviger/pub/cedargo/inner.ErrDuration", laid_pub_claviger_pub_cedargo_inner_ErrDuration)] }
def FnDurationSumsSaid : Prop := fnDurationSumsRow.holds Tryd.pinned (OpenSpec.ofChange fnDurationSumsSpec)

/-- ITS FALSE NEIGHBOUR: 'it returns false'. Refute it at one input. -/
def fnDurationSumsWrong : ChangeSpec := { name := "fnDurationSums", fn := fun _ => fun
  | [d1, d2, d3] => { results := [.lit (.bool false)], args := [d1, d2, d3] }
  | _ => none }
def FnDurationSumsWrongFalsely : Prop := fnDurationSumsRow.holds Tryd.pinned (OpenSpec.ofChange fnDurationSumsWrong)

/-- 'laws.FnDurationUnit': WHATEVER THE INPUT: true; the input reads as it did. -/
def fnDurationUnitSpec : ChangeSpec := { name := "fnDurationUnit", fn := fun _ => fun
  | [d1, d2, d3, d4] => { results := [.lit (.bool true)], args := [d1, d2, d3, d4] }
  | _ => none }
def fnDurationUnitRow : OpenClaim := { program := "ytgliaglnblhinaadoor", sum := "5e59f61b9c89ca31beec6f3a72766b6d103f199d72455908a31b7c7db7e58a84", func := "pub-claviger/laws.FnDurationUnit", spec := "fnDurationUnit", named := ["pub-claviger/pub/cedargo/inner.ErrDuration"], plainKeys := false, apart := false, laid := [("pub-claviger/pub/cedargo/inner.ErrDuration", laid_pub_claviger_pub_cedargo_inner_ErrDuration)] }
def FnDurationUnitSaid : Prop := fnDurationUnitRow.holds Tryd.pinned (OpenSpec.ofChange fnDurationUnitSpec)

/-- ITS FALSE NEIGHBOUR: 'it returns false'. Refute it at one input. -/
def fnDurationUnitWrong : ChangeSpec := { name := "fnDurationUnit", fn := fun _ => fun
  | [d1, d2, d3, d4] => { results := [.lit (.bool false)], args := [d1, d2, d3, d4] }
  | _ => none }
def FnDurationUnitWrongFalsely : Prop := fnDurationUnitRow.holds Tryd.pinned (OpenSpec.ofChange fnDurationUnitWrong)

/- THE SECOND FORM. 'bulk': how many values and letters a reading holds, each counted each time it is reached (what is shared counts as often as it is met; a slice's spare places count too). A statement '..UptoSaid' is the law's where the arguments, and the package variables that the reading takes, are together of bulk at most 1048576: NARROWER than '..Said'. Prove '..Said' where nothing that the law and all that it calls make is longer than what came in: it says more and counts as full. Else prove '..UptoSaid'. A law counts once. -/
mutual
def uptoBulk {H : Type} : DataW H → Nat
  | .lit (.string bytes) => bytes.length + 1
  | .lit _ => 1
  | .nil => 1
  | .ptr d => uptoBulk d + 1
  | .slice elems spare => uptoBulkAll elems + uptoBulkAll spare + 1
  | .agg parts => uptoBulkAll parts + 1
  | .iface _ d => uptoBulk d + 1
  | .map entries => uptoBulkEntries entries + 1
  | .held _ => 1
def uptoBulkAll {H : Type} : List (DataW H) → Nat
  | [] => 0
  | d :: r => uptoBulk d + uptoBulkAll r
def uptoBulkEntries {H : Type} : List (Lit × DataW H) → Nat
  | [] => 0
  | x :: r => uptoBulkEntry x + uptoBulkEntries r
def uptoBulkEntry {H : Type} : Lit × DataW H → Nat
  | (.string bytes, d) => bytes.length + uptoBulk d + 1
  | (_, d) => uptoBulk d + 1
 end
def uptoSmall : (H : Type) → List (DataW H) → Bool := fun _ ds => decide (uptoBulkAll ds ≤ 1048576)
def OpenSpec.upto (s : _root_.Go.ChangeSpec) : _root_.Go.OpenSpec := { _root_.Go.OpenSpec.ofChange s with cond := some uptoSmall }

/-- 'laws.FnUIDSteps', WHERE WHAT IT READS IS OF BULK AT MOST 1048576: true; the input reads as it did. -/
def fnUIDStepsUptoRow : OpenClaim := { program := "ytgliaglnblhinaadoor", sum := "5e59f61b9c89ca31beec6f3a72766b6d103f199d72455908a31b7c7db7e58a84", func := "pub-claviger/laws.FnUIDSteps", spec := "fnUIDSteps", named := ["pub-claviger/pub/cedargo/inner/mapset.peppercorn"], plainKeys := false, apart := false, laid := [("pub-claviger/pub/cedargo/inner/mapset.peppercorn", laid_pub_claviger_pub_cedargo_inner_mapset_peppercorn)], narrowed := true }
def FnUIDStepsUptoSaid : Prop := fnUIDStepsUptoRow.holds Tryd.pinned (OpenSpec.upto fnUIDStepsSpec)

/-- 'laws.FnDurationSums', WHERE WHAT IT READS IS OF BULK AT MOST 1048576: true; the input reads as it did. -/
def fnDurationSumsUptoRow : OpenClaim := { program := "ytgliaglnblhinaadoor", sum := "5e59f61b9c89ca31beec6f3a72766b6d103f199d72455908a31b7c7db7e58a84", func := "pub-claviger/laws.FnDurationSums", spec := "fnDurationSums", named := ["pub-claviger/pub/cedargo/inner.ErrDuration"], plainKeys := false, apart := false, laid := [("pub-claviger/pub/cedargo/inner.ErrDuration", laid_pub_claviger_pub_cedargo_inner_ErrDuration)], narrowed := true }
def FnDurationSumsUptoSaid : Prop := fnDurationSumsUptoRow.holds Tryd.pinned (OpenSpec.upto fnDurationSumsSpec)

/-- 'laws.FnDurationUnit', WHERE WHAT IT READS IS OF BULK AT MOST 1048576: true; the input reads as it did. -/
def fnDurationUnitUptoRow : OpenClaim := { program := "ytgliaglnblhinaadoor", sum := "5e59f61b9c89ca31beec6f3a72766b6d103f199d72455908a31b7c7db7e58a84", func := "pub-claviger/laws.FnDurationUnit", spec := "fnDurationUnit", named := ["pub-claviger/pub/cedargo/inner.ErrDuration"], plainKeys := false, apart := false, laid := [("pub-claviger/pub/cedargo/inner.ErrDuration", laid_pub_claviger_pub_cedargo_inner_ErrDuration)], narrowed := true }
def FnDurationUnitUptoSaid : Prop := fnDurationUnitUptoRow.holds Tryd.pinned (OpenSpec.upto fnDurationUnitSpec)

end Rows
end Go.Proofs.YtgliaglnblhinaaDoor

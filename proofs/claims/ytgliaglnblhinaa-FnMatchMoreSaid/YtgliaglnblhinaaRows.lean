/-
  No cell of these rows narrows 'for every input' (looked for: loops, veiled, ifaces, maps, wideKeys, modest, calm, conditions, laid).
  DERIVED. THE GIVEN ROWS OF THIS SEAT. 3 by the template 'for every input the law returns true; each argument reads behind the call as it read before'; 0 by the template 'total and deterministic' (their statements: YtgliaglnblhinaaTotals.lean).
  GIVEN WITH THE SEED: the statements are not yours to turn. If you find one false, say at which input.
  Laid BY PROGRAM, IN A SANDBOX (cutbox-rows.mjs): the forced cells as the released guide's own fill.sh prints them over the translation d628a3155e1b5155… (all of the seat's roots in one cut). By AI agents, Wed Nov 11 2026. No macro, syntax, notation, axiom, sorry.
-/
import Derived.Test.YtgliaglnblhinaaChecked
import GoSem.Claim
import GoSem.ClaimJoined
import GoSem.ClaimMapViews
import Derived.JoinedTies
import Derived.KernelRfl
namespace Go.Proofs.Ytgliaglnblhinaa
/- THE CELL 'sum', in the pinned program and in every row, IS THE sha256 OF THE DUMP (.gsa) THAT YtgliaglnblhinaaProg.lean LOADS. Nothing in Lean hashes anything: it is a label: what it is worth is what the hold of that sum in a sandbox is worth. -/
noncomputable def Try.pinned : Pinned := { name := "ytgliaglnblhinaa", sum := "d628a3155e1b5155c2fb2d686954e001927cd628c684d2bb7f82fd1bc592bd42", checked := Try.checked }
namespace Rows
def none {H : Type} : Left H := { results := [], args := [] }

/-- 'laws.FnAddThree': WHATEVER THE INPUT: true; the input reads as it did. -/
def fnAddThreeSpec : ChangeSpec := { name := "fnAddThree", fn := fun _ => fun
  | [d1, d2, d3] => { results := [.lit (.bool true)], args := [d1, d2, d3] }
  | _ => none }
def fnAddThreeRow : OpenClaim := { program := "ytgliaglnblhinaa", sum := "d628a3155e1b5155c2fb2d686954e001927cd628c684d2bb7f82fd1bc592bd42", func := "pub-claviger/laws.FnAddThree", spec := "fnAddThree", apart := false }
def FnAddThreeSaid : Prop := fnAddThreeRow.holds Try.pinned (OpenSpec.ofChange fnAddThreeSpec)

/-- ITS FALSE NEIGHBOUR: 'it returns false'. Refute it at one input. -/
def fnAddThreeWrong : ChangeSpec := { name := "fnAddThree", fn := fun _ => fun
  | [d1, d2, d3] => { results := [.lit (.bool false)], args := [d1, d2, d3] }
  | _ => none }
def FnAddThreeWrongFalsely : Prop := fnAddThreeRow.holds Try.pinned (OpenSpec.ofChange fnAddThreeWrong)

/-- 'laws.FnDurationReference': WHATEVER THE INPUT: true; the input reads as it did. -/
def fnDurationReferenceSpec : ChangeSpec := { name := "fnDurationReference", fn := fun _ => fun
  | [d] => { results := [.lit (.bool true)], args := [d] }
  | _ => none }
def fnDurationReferenceRow : OpenClaim := { program := "ytgliaglnblhinaa", sum := "d628a3155e1b5155c2fb2d686954e001927cd628c684d2bb7f82fd1bc592bd42", func := "pub-claviger/laws.FnDurationReference", spec := "fnDurationReference", apart := false }
def FnDurationReferenceSaid : Prop := fnDurationReferenceRow.holds Try.pinned (OpenSpec.ofChange fnDurationReferenceSpec)

/-- ITS FALSE NEIGHBOUR: 'it returns false'. Refute it at one input. -/
def fnDurationReferenceWrong : ChangeSpec := { name := "fnDurationReference", fn := fun _ => fun
  | [d] => { results := [.lit (.bool false)], args := [d] }
  | _ => none }
def FnDurationReferenceWrongFalsely : Prop := fnDurationReferenceRow.holds Try.pinned (OpenSpec.ofChange fnDurationReferenceWrong)

/-- 'laws.FnMatchMore': WHATEVER THE INPUT: true; the input reads as it did. -/
def fnMatchMoreSpec : ChangeSpec := { name := "fnMatchMore", fn := fun _ => fun
  | [d1, d2, d3, d4] => { results := [.lit (.bool true)], args := [d1, d2, d3, d4] }
  | _ => none }
def fnMatchMoreRow : OpenClaim := { program := "ytgliaglnblhinaa", sum := "d628a3155e1b5155c2fb2d686954e001927cd628c684d2bb7f82fd1bc592bd42", func := "pub-claviger/laws.FnMatchMore", spec := "fnMatchMore", apart := false }
def FnMatchMoreSaid : Prop := fnMatchMoreRow.holds Try.pinned (OpenSpec.ofChange fnMatchMoreSpec)

/-- ITS FALSE NEIGHBOUR: 'it returns false'. Refute it at one input. -/
def fnMatchMoreWrong : ChangeSpec := { name := "fnMatchMore", fn := fun _ => fun
  | [d1, d2, d3, d4] => { results := [.lit (.bool false)], args := [d1, d2, d3, d4] }
  | _ => none }
def FnMatchMoreWrongFalsely : Prop := fnMatchMoreRow.holds Try.pinned (OpenSpec.ofChange fnMatchMoreWrong)

/- THE SECOND FORM. 'bulk': how many values and letters a reading holds, each counted each time it is reached (what is shared counts as often as it is met; a slice's spare places count too). A statement '..UptoSaid' is the law's where the arguments, and the package variables that the reading takes, are together of bulk at most 1048576: NARROWER than '..Said'. Prove '..Said' where nothing that the law and all that it calls make is longer than what came in: it says more and counts as full. Else prove '..UptoSaid'. A law counts once. -/
mutual
def uptoBulk {H : Type} : DataW H → Nat
  | .lit (.string bytes) => bytes.length + 1
  | .lit _ => 1
  | .nil => 1
  | .ptr d => uptoBulk d + 1
  | .slice elems spare => uptoBulkAll elems + uptoBulkAll spare + 1
  | .agg parts => uptoBulkAll parts + 1
  | .iface _ d => uptoBulk d + 1
  | .map entries => uptoBulkEntries entries + 1
  | .held _ => 1
def uptoBulkAll {H : Type} : List (DataW H) → Nat
  | [] => 0
  | d :: r => uptoBulk d + uptoBulkAll r
def uptoBulkEntries {H : Type} : List (Lit × DataW H) → Nat
  | [] => 0
  | x :: r => uptoBulkEntry x + uptoBulkEntries r
def uptoBulkEntry {H : Type} : Lit × DataW H → Nat
  | (.string bytes, d) => bytes.length + uptoBulk d + 1
  | (_, d) => uptoBulk d + 1
 end
def uptoSmall : (H : Type) → List (DataW H) → Bool := fun _ ds => decide (uptoBulkAll ds ≤ 1048576)
def OpenSpec.upto (s : _root_.Go.ChangeSpec) : _root_.Go.OpenSpec := { _root_.Go.OpenSpec.ofChange s with cond := some uptoSmall }

/-- 'laws.FnAddThree', WHERE WHAT IT READS IS OF BULK AT MOST 1048576: true; the input reads as it did. -/
def fnAddThreeUptoRow : OpenClaim := { program := "ytgliaglnblhinaa", sum := "d628a3155e1b5155c2fb2d686954e001927cd628c684d2bb7f82fd1bc592bd42", func := "pub-claviger/laws.FnAddThree", spec := "fnAddThree", apart := false, narrowed := true }
def FnAddThreeUptoSaid : Prop := fnAddThreeUptoRow.holds Try.pinned (OpenSpec.upto fnAddThreeSpec)

/-- 'laws.FnDurationReference', WHERE WHAT IT READS IS OF BULK AT MOST 1048576: true; the input reads as it did. -/
def fnDurationReferenceUptoRow : OpenClaim := { program := "ytgliaglnblhinaa", sum := "d628a3155e1b5155c2fb2d686954e001927cd628c684d2bb7f82fd1bc592bd42", func := "pub-claviger/laws.FnDurationReference", spec := "fnDurationReference", apart := false, narrowed := true }
def FnDurationReferenceUptoSaid : Prop := fnDurationReferenceUptoRow.holds Try.pinned (OpenSpec.upto fnDurationReferenceSpec)

/-- 'laws.FnMatchMore', WHERE WHAT IT READS IS OF BULK AT MOST 1048576: true; the input reads as it did. -/
def fnMatchMoreUptoRow : OpenClaim := { program := "ytgliaglnblhinaa", sum := "d628a3155e1b5155c2fb2d686954e001927cd628c684d2bb7f82fd1bc592bd42", func := "pub-claviger/laws.FnMatchMore", spec := "fnMatchMore", apart := false, narrowed := true }
def FnMatchMoreUptoSaid : Prop := fnMatchMoreUptoRow.holds Try.pinned (OpenSpec.upto fnMatchMoreSpec)

end Rows
end Go.Proofs.Ytgliaglnblhinaa

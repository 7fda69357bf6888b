/-
  No cell of these rows narrows 'for every input' (looked for: loops, veiled, ifaces, maps, wideKeys, modest, calm, conditions, laid).
  DERIVED. THE GIVEN ROWS OF THIS SEAT. 3 by the template 'for every input the law returns true; each argument reads behind the call as it read before'; 0 by the template 'total and deterministic' (their statements: Qxb6613998aTotals.lean).
  GIVEN WITH THE SEED: the statements are not yours to turn. If you find one false, say at which input.
  Laid BY PROGRAM, IN A SANDBOX (cutbox-rows.mjs): the forced cells as the released guide's own fill.sh prints them over the translation 790e2e595aaff7f1… (all of the seat's roots in one cut). By AI agents, Wed Nov 11 2026. No macro, syntax, notation, axiom, sorry.
-/
import Derived.Test.Qxb6613998aChecked
import GoSem.Claim
import GoSem.ClaimJoined
import GoSem.ClaimMapViews
import Derived.JoinedTies
import Derived.KernelRfl
namespace Go.Proofs.Qxb6613998a
/- THE CELL 'sum', in the pinned program and in every row, IS THE sha256 OF THE DUMP (.gsa) THAT Qxb6613998aProg.lean LOADS. Nothing in Lean hashes anything: it is a label: what it is worth is what the hold of that sum in a sandbox is worth. -/
noncomputable def Try.pinned : Pinned := { name := "qxb6613998a", sum := "790e2e595aaff7f1acb5adf946a434122d76945584e0beb95b8631b798298f32", checked := Try.checked }
namespace Rows
def none {H : Type} : Left H := { results := [], args := [] }

/-- 'zzlaws_root_b1.FnXdrFixedPadsAndConcatenates': WHATEVER THE INPUT: true; the input reads as it did. -/
def fnXdrFixedPadsAndConcatenatesSpec : ChangeSpec := { name := "fnXdrFixedPadsAndConcatenates", fn := fun _ => fun
  | [d1, d2, d3] => { results := [.lit (.bool true)], args := [d1, d2, d3] }
  | _ => none }
def fnXdrFixedPadsAndConcatenatesRow : OpenClaim := { program := "qxb6613998a", sum := "790e2e595aaff7f1acb5adf946a434122d76945584e0beb95b8631b798298f32", func := "example.com/quorate/quorate/zzlaws_root_b1.FnXdrFixedPadsAndConcatenates", spec := "fnXdrFixedPadsAndConcatenates", apart := false }
def FnXdrFixedPadsAndConcatenatesSaid : Prop := fnXdrFixedPadsAndConcatenatesRow.holds Try.pinned (OpenSpec.ofChange fnXdrFixedPadsAndConcatenatesSpec)

/-- ITS FALSE NEIGHBOUR: 'it returns false'. Refute it at one input. -/
def fnXdrFixedPadsAndConcatenatesWrong : ChangeSpec := { name := "fnXdrFixedPadsAndConcatenates", fn := fun _ => fun
  | [d1, d2, d3] => { results := [.lit (.bool false)], args := [d1, d2, d3] }
  | _ => none }
def FnXdrFixedPadsAndConcatenatesWrongFalsely : Prop := fnXdrFixedPadsAndConcatenatesRow.holds Try.pinned (OpenSpec.ofChange fnXdrFixedPadsAndConcatenatesWrong)

/-- 'zzlaws_root_b1.FnAfterAssociativeSaturating': WHATEVER THE INPUT: true; the input reads as it did. -/
def fnAfterAssociativeSaturatingSpec : ChangeSpec := { name := "fnAfterAssociativeSaturating", fn := fun _ => fun
  | [d1, d2, d3] => { results := [.lit (.bool true)], args := [d1, d2, d3] }
  | _ => none }
def fnAfterAssociativeSaturatingRow : OpenClaim := { program := "qxb6613998a", sum := "790e2e595aaff7f1acb5adf946a434122d76945584e0beb95b8631b798298f32", func := "example.com/quorate/quorate/zzlaws_root_b1.FnAfterAssociativeSaturating", spec := "fnAfterAssociativeSaturating", apart := false }
def FnAfterAssociativeSaturatingSaid : Prop := fnAfterAssociativeSaturatingRow.holds Try.pinned (OpenSpec.ofChange fnAfterAssociativeSaturatingSpec)

/-- ITS FALSE NEIGHBOUR: 'it returns false'. Refute it at one input. -/
def fnAfterAssociativeSaturatingWrong : ChangeSpec := { name := "fnAfterAssociativeSaturating", fn := fun _ => fun
  | [d1, d2, d3] => { results := [.lit (.bool false)], args := [d1, d2, d3] }
  | _ => none }
def FnAfterAssociativeSaturatingWrongFalsely : Prop := fnAfterAssociativeSaturatingRow.holds Try.pinned (OpenSpec.ofChange fnAfterAssociativeSaturatingWrong)

/-- 'zzlaws_root_b1.FnAfterCommutesAndSubtractionUndoesIt': WHATEVER THE INPUT: true; the input reads as it did. -/
def fnAfterCommutesAndSubtractionUndoesItSpec : ChangeSpec := { name := "fnAfterCommutesAndSubtractionUndoesIt", fn := fun _ => fun
  | [d1, d2, d3] => { results := [.lit (.bool true)], args := [d1, d2, d3] }
  | _ => none }
def fnAfterCommutesAndSubtractionUndoesItRow : OpenClaim := { program := "qxb6613998a", sum := "790e2e595aaff7f1acb5adf946a434122d76945584e0beb95b8631b798298f32", func := "example.com/quorate/quorate/zzlaws_root_b1.FnAfterCommutesAndSubtractionUndoesIt", spec := "fnAfterCommutesAndSubtractionUndoesIt", apart := false }
def FnAfterCommutesAndSubtractionUndoesItSaid : Prop := fnAfterCommutesAndSubtractionUndoesItRow.holds Try.pinned (OpenSpec.ofChange fnAfterCommutesAndSubtractionUndoesItSpec)

/-- ITS FALSE NEIGHBOUR: 'it returns false'. Refute it at one input. -/
def fnAfterCommutesAndSubtractionUndoesItWrong : ChangeSpec := { name := "fnAfterCommutesAndSubtractionUndoesIt", fn := fun _ => fun
  | [d1, d2, d3] => { results := [.lit (.bool false)], args := [d1, d2, d3] }
  | _ => none }
def FnAfterCommutesAndSubtractionUndoesItWrongFalsely : Prop := fnAfterCommutesAndSubtractionUndoesItRow.holds Try.pinned (OpenSpec.ofChange fnAfterCommutesAndSubtractionUndoesItWrong)

end Rows
end Go.Proofs.Qxb6613998a

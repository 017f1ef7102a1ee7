/-
  No cell of these rows narrows 'for every input' (looked for: loops, veiled, ifaces, maps, wideKeys, modest, calm, conditions, laid).
  DERIVED. THE GIVEN ROWS OF THIS SEAT. 5 by the template 'for every input the law returns true; each argument reads behind the call as it read before'; 0 by the template 'total and deterministic' (their statements: Qxb6601138aTotals.lean).
  GIVEN WITH THE SEED: the statements are not yours to turn. If you find one false, say at which input.
  Laid BY PROGRAM, IN A SANDBOX (cutbox-rows.mjs): the forced cells as the released guide's own fill.sh prints them over the translation 6f640a35e5b44d2b… (all of the seat's roots in one cut). By AI agents, Wed Nov 11 2026. No macro, syntax, notation, axiom, sorry.
-/
import Derived.Test.Qxb6601138aChecked
import GoSem.Claim
import GoSem.ClaimJoined
import GoSem.ClaimMapViews
import Derived.JoinedTies
import Derived.KernelRfl
namespace Go.Proofs.Qxb6601138a
/- THE CELL 'sum', in the pinned program and in every row, IS THE sha256 OF THE DUMP (.gsa) THAT Qxb6601138aProg.lean LOADS. Nothing in Lean hashes anything: it is a label: what it is worth is what the hold of that sum in a sandbox is worth. -/
noncomputable def Try.pinned : Pinned := { name := "qxb6601138a", sum := "6f640a35e5b44d2b82236efdfaf67914667f0429589461e40b5a702ba47d8981", checked := Try.checked }
namespace Rows
def none {H : Type} : Left H := { results := [], args := [] }

/-- 'zzlaws_deflate_b1.FnHuffmanMatchesPoolModel': WHATEVER THE INPUT: true; the input reads as it did. -/
def fnHuffmanMatchesPoolModelSpec : ChangeSpec := { name := "fnHuffmanMatchesPoolModel", fn := fun _ => fun
  | [d1, d2, d3] => { results := [.lit (.bool true)], args := [d1, d2, d3] }
  | _ => none }
def fnHuffmanMatchesPoolModelRow : OpenClaim := { program := "qxb6601138a", sum := "6f640a35e5b44d2b82236efdfaf67914667f0429589461e40b5a702ba47d8981", func := "example.com/skimlayer/skimlayer/zzlaws_deflate_b1.FnHuffmanMatchesPoolModel", spec := "fnHuffmanMatchesPoolModel", apart := false }
def FnHuffmanMatchesPoolModelSaid : Prop := fnHuffmanMatchesPoolModelRow.holds Try.pinned (OpenSpec.ofChange fnHuffmanMatchesPoolModelSpec)

/-- ITS FALSE NEIGHBOUR: 'it returns false'. Refute it at one input. -/
def fnHuffmanMatchesPoolModelWrong : ChangeSpec := { name := "fnHuffmanMatchesPoolModel", fn := fun _ => fun
  | [d1, d2, d3] => { results := [.lit (.bool false)], args := [d1, d2, d3] }
  | _ => none }
def FnHuffmanMatchesPoolModelWrongFalsely : Prop := fnHuffmanMatchesPoolModelRow.holds Try.pinned (OpenSpec.ofChange fnHuffmanMatchesPoolModelWrong)

/-- 'zzlaws_deflate_b1.FnHuffmanCodeIsCompleteAndOrdered': WHATEVER THE INPUT: true; the input reads as it did. -/
def fnHuffmanCodeIsCompleteAndOrderedSpec : ChangeSpec := { name := "fnHuffmanCodeIsCompleteAndOrdered", fn := fun _ => fun
  | [d1, d2, d3] => { results := [.lit (.bool true)], args := [d1, d2, d3] }
  | _ => none }
def fnHuffmanCodeIsCompleteAndOrderedRow : OpenClaim := { program := "qxb6601138a", sum := "6f640a35e5b44d2b82236efdfaf67914667f0429589461e40b5a702ba47d8981", func := "example.com/skimlayer/skimlayer/zzlaws_deflate_b1.FnHuffmanCodeIsCompleteAndOrdered", spec := "fnHuffmanCodeIsCompleteAndOrdered", apart := false }
def FnHuffmanCodeIsCompleteAndOrderedSaid : Prop := fnHuffmanCodeIsCompleteAndOrderedRow.holds Try.pinned (OpenSpec.ofChange fnHuffmanCodeIsCompleteAndOrderedSpec)

/-- ITS FALSE NEIGHBOUR: 'it returns false'. Refute it at one input. -/
def fnHuffmanCodeIsCompleteAndOrderedWrong : ChangeSpec := { name := "fnHuffmanCodeIsCompleteAndOrdered", fn := fun _ => fun
  | [d1, d2, d3] => { results := [.lit (.bool false)], args := [d1, d2, d3] }
  | _ => none }
def FnHuffmanCodeIsCompleteAndOrderedWrongFalsely : Prop := fnHuffmanCodeIsCompleteAndOrderedRow.holds Try.pinned (OpenSpec.ofChange fnHuffmanCodeIsCompleteAndOrderedWrong)

/-- 'zzlaws_deflate_b1.FnPackageMergeMatchesHuffmanCostWhereHuffmanFits': WHATEVER THE INPUT: true; the input reads as it did. -/
def fnPackageMergeMatchesHuffmanCostWhereHuffmanFitsSpec : ChangeSpec := { name := "fnPackageMergeMatchesHuffmanCostWhereHuffmanFits", fn := fun _ => fun
  | [d1, d2, d3] => { results := [.lit (.bool true)], args := [d1, d2, d3] }
  | _ => none }
def fnPackageMergeMatchesHuffmanCostWhereHuffmanFitsRow : OpenClaim := { program := "qxb6601138a", sum := "6f640a35e5b44d2b82236efdfaf67914667f0429589461e40b5a702ba47d8981", func := "example.com/skimlayer/skimlayer/zzlaws_deflate_b1.FnPackageMergeMatchesHuffmanCostWhereHuffmanFits", spec := "fnPackageMergeMatchesHuffmanCostWhereHuffmanFits", apart := false }
def FnPackageMergeMatchesHuffmanCostWhereHuffmanFitsSaid : Prop := fnPackageMergeMatchesHuffmanCostWhereHuffmanFitsRow.holds Try.pinned (OpenSpec.ofChange fnPackageMergeMatchesHuffmanCostWhereHuffmanFitsSpec)

/-- ITS FALSE NEIGHBOUR: 'it returns false'. Refute it at one input. -/
def fnPackageMergeMatchesHuffmanCostWhereHuffmanFitsWrong : ChangeSpec := { name := "fnPackageMergeMatchesHuffmanCostWhereHuffmanFits", fn := fun _ => fun
  | [d1, d2, d3] => { results := [.lit (.bool false)], args := [d1, d2, d3] }
  | _ => none }
def FnPackageMergeMatchesHuffmanCostWhereHuffmanFitsWrongFalsely : Prop := fnPackageMergeMatchesHuffmanCostWhereHuffmanFitsRow.holds Try.pinned (OpenSpec.ofChange fnPackageMergeMatchesHuffmanCostWhereHuffmanFitsWrong)

/-- 'zzlaws_deflate_b1.FnPackageMergeCodeIsCompleteAndOrdered': WHATEVER THE INPUT: true; the input reads as it did. -/
def fnPackageMergeCodeIsCompleteAndOrderedSpec : ChangeSpec := { name := "fnPackageMergeCodeIsCompleteAndOrdered", fn := fun _ => fun
  | [d1, d2, d3] => { results := [.lit (.bool true)], args := [d1, d2, d3] }
  | _ => none }
def fnPackageMergeCodeIsCompleteAndOrderedRow : OpenClaim := { program := "qxb6601138a", sum := "6f640a35e5b44d2b82236efdfaf67914667f0429589461e40b5a702ba47d8981", func := "example.com/skimlayer/skimlayer/zzlaws_deflate_b1.FnPackageMergeCodeIsCompleteAndOrdered", spec := "fnPackageMergeCodeIsCompleteAndOrdered", apart := false }
def FnPackageMergeCodeIsCompleteAndOrderedSaid : Prop := fnPackageMergeCodeIsCompleteAndOrderedRow.holds Try.pinned (OpenSpec.ofChange fnPackageMergeCodeIsCompleteAndOrderedSpec)

/-- ITS FALSE NEIGHBOUR: 'it returns false'. Refute it at one input. -/
def fnPackageMergeCodeIsCompleteAndOrderedWrong : ChangeSpec := { name := "fnPackageMergeCodeIsCompleteAndOrdered", fn := fun _ => fun
  | [d1, d2, d3] => { results := [.lit (.bool false)], args := [d1, d2, d3] }
  | _ => none }
def FnPackageMergeCodeIsCompleteAndOrderedWrongFalsely : Prop := fnPackageMergeCodeIsCompleteAndOrderedRow.holds Try.pinned (OpenSpec.ofChange fnPackageMergeCodeIsCompleteAndOrderedWrong)

/-- 'zzlaws_deflate_b1.FnPackageMergeCostNeverRisesWithTheLimit': WHATEVER THE INPUT: true; the input reads as it did. -/
def fnPackageMergeCostNeverRisesWithTheLimitSpec : ChangeSpec := { name := "fnPackageMergeCostNeverRisesWithTheLimit", fn := fun _ => fun
  | [d1, d2, d3] => { results := [.lit (.bool true)], args := [d1, d2, d3] }
  | _ => none }
def fnPackageMergeCostNeverRisesWithTheLimitRow : OpenClaim := { program := "qxb6601138a", sum := "6f640a35e5b44d2b82236efdfaf67914667f0429589461e40b5a702ba47d8981", func := "example.com/skimlayer/skimlayer/zzlaws_deflate_b1.FnPackageMergeCostNeverRisesWithTheLimit", spec := "fnPackageMergeCostNeverRisesWithTheLimit", apart := false }
def FnPackageMergeCostNeverRisesWithTheLimitSaid : Prop := fnPackageMergeCostNeverRisesWithTheLimitRow.holds Try.pinned (OpenSpec.ofChange fnPackageMergeCostNeverRisesWithTheLimitSpec)

/-- ITS FALSE NEIGHBOUR: 'it returns false'. Refute it at one input. -/
def fnPackageMergeCostNeverRisesWithTheLimitWrong : ChangeSpec := { name := "fnPackageMergeCostNeverRisesWithTheLimit", fn := fun _ => fun
  | [d1, d2, d3] => { results := [.lit (.bool false)], args := [d1, d2, d3] }
  | _ => none }
def FnPackageMergeCostNeverRisesWithTheLimitWrongFalsely : Prop := fnPackageMergeCostNeverRisesWithTheLimitRow.holds Try.pinned (OpenSpec.ofChange fnPackageMergeCostNeverRisesWithTheLimitWrong)

end Rows
end Go.Proofs.Qxb6601138a

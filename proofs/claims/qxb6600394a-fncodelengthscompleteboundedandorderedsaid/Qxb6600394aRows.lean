/-
  No cell of these rows narrows 'for every input' (looked for: loops, veiled, ifaces, maps, wideKeys, modest, calm, conditions, laid).
  DERIVED. THE GIVEN ROWS OF THIS SEAT. 8 by the template 'for every input the law returns true; each argument reads behind the call as it read before'; 0 by the template 'total and deterministic' (their statements: Qxb6600394aTotals.lean).
  GIVEN WITH THE SEED: the statements are not yours to turn. If you find one false, say at which input.
  Laid BY PROGRAM, IN A SANDBOX (cutbox-rows.mjs): the forced cells as the released guide's own fill.sh prints them over the translation ea740f59fe194046… (all of the seat's roots in one cut). By AI agents, Wed Nov 11 2026. No macro, syntax, notation, axiom, sorry.
-/
import Derived.Test.Qxb6600394aChecked
import GoSem.Claim
import GoSem.ClaimJoined
import GoSem.ClaimMapViews
import Derived.JoinedTies
import Derived.KernelRfl
namespace Go.Proofs.Qxb6600394a
/- THE CELL 'sum', in the pinned program and in every row, IS THE sha256 OF THE DUMP (.gsa) THAT Qxb6600394aProg.lean LOADS. Nothing in Lean hashes anything: it is a label: what it is worth is what the hold of that sum in a sandbox is worth. -/
noncomputable def Try.pinned : Pinned := { name := "qxb6600394a", sum := "ea740f59fe194046cc1b1bdf05611cb4a2c2612d7af9b420cc2b5a6b978f61e9", checked := Try.checked }
namespace Rows
def none {H : Type} : Left H := { results := [], args := [] }

/-- 'zzlaws_root_b1.FnCodeLengthsIsAnOptimalHuffmanCode': WHATEVER THE INPUT: true; the input reads as it did. -/
def fnCodeLengthsIsAnOptimalHuffmanCodeSpec : ChangeSpec := { name := "fnCodeLengthsIsAnOptimalHuffmanCode", fn := fun _ => fun
  | [d] => { results := [.lit (.bool true)], args := [d] }
  | _ => none }
def fnCodeLengthsIsAnOptimalHuffmanCodeRow : OpenClaim := { program := "qxb6600394a", sum := "ea740f59fe194046cc1b1bdf05611cb4a2c2612d7af9b420cc2b5a6b978f61e9", func := "example.com/cinch/cinch/zzlaws_root_b1.FnCodeLengthsIsAnOptimalHuffmanCode", spec := "fnCodeLengthsIsAnOptimalHuffmanCode", unfollowed := true, recurses := true, apart := false }
def FnCodeLengthsIsAnOptimalHuffmanCodeSaid : Prop := fnCodeLengthsIsAnOptimalHuffmanCodeRow.holds Try.pinned (OpenSpec.ofChange fnCodeLengthsIsAnOptimalHuffmanCodeSpec)

/-- ITS FALSE NEIGHBOUR: 'it returns false'. Refute it at one input. -/
def fnCodeLengthsIsAnOptimalHuffmanCodeWrong : ChangeSpec := { name := "fnCodeLengthsIsAnOptimalHuffmanCode", fn := fun _ => fun
  | [d] => { results := [.lit (.bool false)], args := [d] }
  | _ => none }
def FnCodeLengthsIsAnOptimalHuffmanCodeWrongFalsely : Prop := fnCodeLengthsIsAnOptimalHuffmanCodeRow.holds Try.pinned (OpenSpec.ofChange fnCodeLengthsIsAnOptimalHuffmanCodeWrong)

/-- 'zzlaws_root_b1.FnCodeLengthsCompleteBoundedAndOrdered': WHATEVER THE INPUT: true; the input reads as it did. -/
def fnCodeLengthsCompleteBoundedAndOrderedSpec : ChangeSpec := { name := "fnCodeLengthsCompleteBoundedAndOrdered", fn := fun _ => fun
  | [d] => { results := [.lit (.bool true)], args := [d] }
  | _ => none }
def fnCodeLengthsCompleteBoundedAndOrderedRow : OpenClaim := { program := "qxb6600394a", sum := "ea740f59fe194046cc1b1bdf05611cb4a2c2612d7af9b420cc2b5a6b978f61e9", func := "example.com/cinch/cinch/zzlaws_root_b1.FnCodeLengthsCompleteBoundedAndOrdered", spec := "fnCodeLengthsCompleteBoundedAndOrdered", unfollowed := true, recurses := true, apart := false }
def FnCodeLengthsCompleteBoundedAndOrderedSaid : Prop := fnCodeLengthsCompleteBoundedAndOrderedRow.holds Try.pinned (OpenSpec.ofChange fnCodeLengthsCompleteBoundedAndOrderedSpec)

/-- ITS FALSE NEIGHBOUR: 'it returns false'. Refute it at one input. -/
def fnCodeLengthsCompleteBoundedAndOrderedWrong : ChangeSpec := { name := "fnCodeLengthsCompleteBoundedAndOrdered", fn := fun _ => fun
  | [d] => { results := [.lit (.bool false)], args := [d] }
  | _ => none }
def FnCodeLengthsCompleteBoundedAndOrderedWrongFalsely : Prop := fnCodeLengthsCompleteBoundedAndOrderedRow.holds Try.pinned (OpenSpec.ofChange fnCodeLengthsCompleteBoundedAndOrderedWrong)

/-- 'zzlaws_root_b1.FnCodeLengthsScaleInvariant': WHATEVER THE INPUT: true; the input reads as it did. -/
def fnCodeLengthsScaleInvariantSpec : ChangeSpec := { name := "fnCodeLengthsScaleInvariant", fn := fun _ => fun
  | [d1, d2] => { results := [.lit (.bool true)], args := [d1, d2] }
  | _ => none }
def fnCodeLengthsScaleInvariantRow : OpenClaim := { program := "qxb6600394a", sum := "ea740f59fe194046cc1b1bdf05611cb4a2c2612d7af9b420cc2b5a6b978f61e9", func := "example.com/cinch/cinch/zzlaws_root_b1.FnCodeLengthsScaleInvariant", spec := "fnCodeLengthsScaleInvariant", unfollowed := true, recurses := true, apart := false }
def FnCodeLengthsScaleInvariantSaid : Prop := fnCodeLengthsScaleInvariantRow.holds Try.pinned (OpenSpec.ofChange fnCodeLengthsScaleInvariantSpec)

/-- ITS FALSE NEIGHBOUR: 'it returns false'. Refute it at one input. -/
def fnCodeLengthsScaleInvariantWrong : ChangeSpec := { name := "fnCodeLengthsScaleInvariant", fn := fun _ => fun
  | [d1, d2] => { results := [.lit (.bool false)], args := [d1, d2] }
  | _ => none }
def FnCodeLengthsScaleInvariantWrongFalsely : Prop := fnCodeLengthsScaleInvariantRow.holds Try.pinned (OpenSpec.ofChange fnCodeLengthsScaleInvariantWrong)

/-- 'zzlaws_root_b1.FnIsDecimalAgreesWithItsAutomaton': WHATEVER THE INPUT: true; the input reads as it did. -/
def fnIsDecimalAgreesWithItsAutomatonSpec : ChangeSpec := { name := "fnIsDecimalAgreesWithItsAutomaton", fn := fun _ => fun
  | [d] => { results := [.lit (.bool true)], args := [d] }
  | _ => none }
def fnIsDecimalAgreesWithItsAutomatonRow : OpenClaim := { program := "qxb6600394a", sum := "ea740f59fe194046cc1b1bdf05611cb4a2c2612d7af9b420cc2b5a6b978f61e9", func := "example.com/cinch/cinch/zzlaws_root_b1.FnIsDecimalAgreesWithItsAutomaton", spec := "fnIsDecimalAgreesWithItsAutomaton", unfollowed := true, recurses := true, apart := false }
def FnIsDecimalAgreesWithItsAutomatonSaid : Prop := fnIsDecimalAgreesWithItsAutomatonRow.holds Try.pinned (OpenSpec.ofChange fnIsDecimalAgreesWithItsAutomatonSpec)

/-- ITS FALSE NEIGHBOUR: 'it returns false'. Refute it at one input. -/
def fnIsDecimalAgreesWithItsAutomatonWrong : ChangeSpec := { name := "fnIsDecimalAgreesWithItsAutomaton", fn := fun _ => fun
  | [d] => { results := [.lit (.bool false)], args := [d] }
  | _ => none }
def FnIsDecimalAgreesWithItsAutomatonWrongFalsely : Prop := fnIsDecimalAgreesWithItsAutomatonRow.holds Try.pinned (OpenSpec.ofChange fnIsDecimalAgreesWithItsAutomatonWrong)

/-- 'zzlaws_root_b1.FnIsDecimalAcceptsWellFormedRefusesTruncated': WHATEVER THE INPUT: true; the input reads as it did. -/
def fnIsDecimalAcceptsWellFormedRefusesTruncatedSpec : ChangeSpec := { name := "fnIsDecimalAcceptsWellFormedRefusesTruncated", fn := fun _ => fun
  | [d1, d2, d3, d4, d5, d6, d7, d8] => { results := [.lit (.bool true)], args := [d1, d2, d3, d4, d5, d6, d7, d8] }
  | _ => none }
def fnIsDecimalAcceptsWellFormedRefusesTruncatedRow : OpenClaim := { program := "qxb6600394a", sum := "ea740f59fe194046cc1b1bdf05611cb4a2c2612d7af9b420cc2b5a6b978f61e9", func := "example.com/cinch/cinch/zzlaws_root_b1.FnIsDecimalAcceptsWellFormedRefusesTruncated", spec := "fnIsDecimalAcceptsWellFormedRefusesTruncated", unfollowed := true, recurses := true, apart := false }
def FnIsDecimalAcceptsWellFormedRefusesTruncatedSaid : Prop := fnIsDecimalAcceptsWellFormedRefusesTruncatedRow.holds Try.pinned (OpenSpec.ofChange fnIsDecimalAcceptsWellFormedRefusesTruncatedSpec)

/-- ITS FALSE NEIGHBOUR: 'it returns false'. Refute it at one input. -/
def fnIsDecimalAcceptsWellFormedRefusesTruncatedWrong : ChangeSpec := { name := "fnIsDecimalAcceptsWellFormedRefusesTruncated", fn := fun _ => fun
  | [d1, d2, d3, d4, d5, d6, d7, d8] => { results := [.lit (.bool false)], args := [d1, d2, d3, d4, d5, d6, d7, d8] }
  | _ => none }
def FnIsDecimalAcceptsWellFormedRefusesTruncatedWrongFalsely : Prop := fnIsDecimalAcceptsWellFormedRefusesTruncatedRow.holds Try.pinned (OpenSpec.ofChange fnIsDecimalAcceptsWellFormedRefusesTruncatedWrong)

/-- 'zzlaws_root_b1.FnIsDecimalGrowsOnlyByDigits': WHATEVER THE INPUT: true; the input reads as it did. -/
def fnIsDecimalGrowsOnlyByDigitsSpec : ChangeSpec := { name := "fnIsDecimalGrowsOnlyByDigits", fn := fun _ => fun
  | [d1, d2] => { results := [.lit (.bool true)], args := [d1, d2] }
  | _ => none }
def fnIsDecimalGrowsOnlyByDigitsRow : OpenClaim := { program := "qxb6600394a", sum := "ea740f59fe194046cc1b1bdf05611cb4a2c2612d7af9b420cc2b5a6b978f61e9", func := "example.com/cinch/cinch/zzlaws_root_b1.FnIsDecimalGrowsOnlyByDigits", spec := "fnIsDecimalGrowsOnlyByDigits", unfollowed := true, recurses := true, apart := false }
def FnIsDecimalGrowsOnlyByDigitsSaid : Prop := fnIsDecimalGrowsOnlyByDigitsRow.holds Try.pinned (OpenSpec.ofChange fnIsDecimalGrowsOnlyByDigitsSpec)

/-- ITS FALSE NEIGHBOUR: 'it returns false'. Refute it at one input. -/
def fnIsDecimalGrowsOnlyByDigitsWrong : ChangeSpec := { name := "fnIsDecimalGrowsOnlyByDigits", fn := fun _ => fun
  | [d1, d2] => { results := [.lit (.bool false)], args := [d1, d2] }
  | _ => none }
def FnIsDecimalGrowsOnlyByDigitsWrongFalsely : Prop := fnIsDecimalGrowsOnlyByDigitsRow.holds Try.pinned (OpenSpec.ofChange fnIsDecimalGrowsOnlyByDigitsWrong)

/-- 'zzlaws_root_b1.FnWithDefaultsIsIdempotent': WHATEVER THE INPUT: true; the input reads as it did. -/
def fnWithDefaultsIsIdempotentSpec : ChangeSpec := { name := "fnWithDefaultsIsIdempotent", fn := fun _ => fun
  | [d1, d2, d3, d4, d5] => { results := [.lit (.bool true)], args := [d1, d2, d3, d4, d5] }
  | _ => none }
def fnWithDefaultsIsIdempotentRow : OpenClaim := { program := "qxb6600394a", sum := "ea740f59fe194046cc1b1bdf05611cb4a2c2612d7af9b420cc2b5a6b978f61e9", func := "example.com/cinch/cinch/zzlaws_root_b1.FnWithDefaultsIsIdempotent", spec := "fnWithDefaultsIsIdempotent", apart := false }
def FnWithDefaultsIsIdempotentSaid : Prop := fnWithDefaultsIsIdempotentRow.holds Try.pinned (OpenSpec.ofChange fnWithDefaultsIsIdempotentSpec)

/-- ITS FALSE NEIGHBOUR: 'it returns false'. Refute it at one input. -/
def fnWithDefaultsIsIdempotentWrong : ChangeSpec := { name := "fnWithDefaultsIsIdempotent", fn := fun _ => fun
  | [d1, d2, d3, d4, d5] => { results := [.lit (.bool false)], args := [d1, d2, d3, d4, d5] }
  | _ => none }
def FnWithDefaultsIsIdempotentWrongFalsely : Prop := fnWithDefaultsIsIdempotentRow.holds Try.pinned (OpenSpec.ofChange fnWithDefaultsIsIdempotentWrong)

/-- 'zzlaws_root_b1.FnWithDefaultsAlwaysFullAndFixesOnlyFull': WHATEVER THE INPUT: true; the input reads as it did. -/
def fnWithDefaultsAlwaysFullAndFixesOnlyFullSpec : ChangeSpec := { name := "fnWithDefaultsAlwaysFullAndFixesOnlyFull", fn := fun _ => fun
  | [d1, d2, d3, d4, d5] => { results := [.lit (.bool true)], args := [d1, d2, d3, d4, d5] }
  | _ => none }
def fnWithDefaultsAlwaysFullAndFixesOnlyFullRow : OpenClaim := { program := "qxb6600394a", sum := "ea740f59fe194046cc1b1bdf05611cb4a2c2612d7af9b420cc2b5a6b978f61e9", func := "example.com/cinch/cinch/zzlaws_root_b1.FnWithDefaultsAlwaysFullAndFixesOnlyFull", spec := "fnWithDefaultsAlwaysFullAndFixesOnlyFull", apart := false }
def FnWithDefaultsAlwaysFullAndFixesOnlyFullSaid : Prop := fnWithDefaultsAlwaysFullAndFixesOnlyFullRow.holds Try.pinned (OpenSpec.ofChange fnWithDefaultsAlwaysFullAndFixesOnlyFullSpec)

/-- ITS FALSE NEIGHBOUR: 'it returns false'. Refute it at one input. -/
def fnWithDefaultsAlwaysFullAndFixesOnlyFullWrong : ChangeSpec := { name := "fnWithDefaultsAlwaysFullAndFixesOnlyFull", fn := fun _ => fun
  | [d1, d2, d3, d4, d5] => { results := [.lit (.bool false)], args := [d1, d2, d3, d4, d5] }
  | _ => none }
def FnWithDefaultsAlwaysFullAndFixesOnlyFullWrongFalsely : Prop := fnWithDefaultsAlwaysFullAndFixesOnlyFullRow.holds Try.pinned (OpenSpec.ofChange fnWithDefaultsAlwaysFullAndFixesOnlyFullWrong)

end Rows
end Go.Proofs.Qxb6600394a

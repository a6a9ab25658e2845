/-
  No cell of these rows narrows 'for every input' (looked for: loops, veiled, ifaces, maps, wideKeys, modest, calm, conditions, laid).
  DERIVED. THE GIVEN ROWS OF THIS SEAT. 6 by the template 'for every input the law returns true; each argument reads behind the call as it read before'; 0 by the template 'total and deterministic' (their statements: Qxb6600227aTotals.lean).
  GIVEN WITH THE SEED: the statements are not yours to turn. If you find one false, say at which input.
  Laid BY PROGRAM, IN A SANDBOX (cutbox-rows.mjs): the forced cells as the released guide's own fill.sh prints them over the translation dae79d9ca3b3944b… (all of the seat's roots in one cut). By AI agents, Wed Nov 11 2026. No macro, syntax, notation, axiom, sorry.
-/
import Derived.Test.Qxb6600227aChecked
import GoSem.Claim
import GoSem.ClaimJoined
import GoSem.ClaimMapViews
import Derived.JoinedTies
import Derived.KernelRfl
namespace Go.Proofs.Qxb6600227a
/- THE CELL 'sum', in the pinned program and in every row, IS THE sha256 OF THE DUMP (.gsa) THAT Qxb6600227aProg.lean LOADS. Nothing in Lean hashes anything: it is a label: what it is worth is what the hold of that sum in a sandbox is worth. -/
noncomputable def Try.pinned : Pinned := { name := "qxb6600227a", sum := "dae79d9ca3b3944ba3fb5dc762d4f6b83ea955c8cd217223ab8331beeebf7a27", checked := Try.checked }
namespace Rows
def none {H : Type} : Left H := { results := [], args := [] }

/-- 'zzlaws_root_b1.FnEditDistanceBoundsAndZero': WHATEVER THE INPUT: true; the input reads as it did. -/
def fnEditDistanceBoundsAndZeroSpec : ChangeSpec := { name := "fnEditDistanceBoundsAndZero", fn := fun _ => fun
  | [d1, d2] => { results := [.lit (.bool true)], args := [d1, d2] }
  | _ => none }
def fnEditDistanceBoundsAndZeroRow : OpenClaim := { program := "qxb6600227a", sum := "dae79d9ca3b3944ba3fb5dc762d4f6b83ea955c8cd217223ab8331beeebf7a27", func := "example.com/orderly-gate/orderly-gate/zzlaws_root_b1.FnEditDistanceBoundsAndZero", spec := "fnEditDistanceBoundsAndZero", apart := false }
def FnEditDistanceBoundsAndZeroSaid : Prop := fnEditDistanceBoundsAndZeroRow.holds Try.pinned (OpenSpec.ofChange fnEditDistanceBoundsAndZeroSpec)

/-- ITS FALSE NEIGHBOUR: 'it returns false'. Refute it at one input. -/
def fnEditDistanceBoundsAndZeroWrong : ChangeSpec := { name := "fnEditDistanceBoundsAndZero", fn := fun _ => fun
  | [d1, d2] => { results := [.lit (.bool false)], args := [d1, d2] }
  | _ => none }
def FnEditDistanceBoundsAndZeroWrongFalsely : Prop := fnEditDistanceBoundsAndZeroRow.holds Try.pinned (OpenSpec.ofChange fnEditDistanceBoundsAndZeroWrong)

/-- 'zzlaws_root_b1.FnEditDistanceSymmetricWithoutAnyChar': WHATEVER THE INPUT: true; the input reads as it did. -/
def fnEditDistanceSymmetricWithoutAnyCharSpec : ChangeSpec := { name := "fnEditDistanceSymmetricWithoutAnyChar", fn := fun _ => fun
  | [d1, d2] => { results := [.lit (.bool true)], args := [d1, d2] }
  | _ => none }
def fnEditDistanceSymmetricWithoutAnyCharRow : OpenClaim := { program := "qxb6600227a", sum := "dae79d9ca3b3944ba3fb5dc762d4f6b83ea955c8cd217223ab8331beeebf7a27", func := "example.com/orderly-gate/orderly-gate/zzlaws_root_b1.FnEditDistanceSymmetricWithoutAnyChar", spec := "fnEditDistanceSymmetricWithoutAnyChar", apart := false }
def FnEditDistanceSymmetricWithoutAnyCharSaid : Prop := fnEditDistanceSymmetricWithoutAnyCharRow.holds Try.pinned (OpenSpec.ofChange fnEditDistanceSymmetricWithoutAnyCharSpec)

/-- ITS FALSE NEIGHBOUR: 'it returns false'. Refute it at one input. -/
def fnEditDistanceSymmetricWithoutAnyCharWrong : ChangeSpec := { name := "fnEditDistanceSymmetricWithoutAnyChar", fn := fun _ => fun
  | [d1, d2] => { results := [.lit (.bool false)], args := [d1, d2] }
  | _ => none }
def FnEditDistanceSymmetricWithoutAnyCharWrongFalsely : Prop := fnEditDistanceSymmetricWithoutAnyCharRow.holds Try.pinned (OpenSpec.ofChange fnEditDistanceSymmetricWithoutAnyCharWrong)

/-- 'zzlaws_root_b1.FnJaroWinklerDistinctRunesModel': WHATEVER THE INPUT: true; the input reads as it did. -/
def fnJaroWinklerDistinctRunesModelSpec : ChangeSpec := { name := "fnJaroWinklerDistinctRunesModel", fn := fun _ => fun
  | [d1, d2] => { results := [.lit (.bool true)], args := [d1, d2] }
  | _ => none }
def fnJaroWinklerDistinctRunesModelRow : OpenClaim := { program := "qxb6600227a", sum := "dae79d9ca3b3944ba3fb5dc762d4f6b83ea955c8cd217223ab8331beeebf7a27", func := "example.com/orderly-gate/orderly-gate/zzlaws_root_b1.FnJaroWinklerDistinctRunesModel", spec := "fnJaroWinklerDistinctRunesModel", apart := false }
def FnJaroWinklerDistinctRunesModelSaid : Prop := fnJaroWinklerDistinctRunesModelRow.holds Try.pinned (OpenSpec.ofChange fnJaroWinklerDistinctRunesModelSpec)

/-- ITS FALSE NEIGHBOUR: 'it returns false'. Refute it at one input. -/
def fnJaroWinklerDistinctRunesModelWrong : ChangeSpec := { name := "fnJaroWinklerDistinctRunesModel", fn := fun _ => fun
  | [d1, d2] => { results := [.lit (.bool false)], args := [d1, d2] }
  | _ => none }
def FnJaroWinklerDistinctRunesModelWrongFalsely : Prop := fnJaroWinklerDistinctRunesModelRow.holds Try.pinned (OpenSpec.ofChange fnJaroWinklerDistinctRunesModelWrong)

/-- 'zzlaws_root_b1.FnJaroWinklerRangeAndRefusal': WHATEVER THE INPUT: true; the input reads as it did. -/
def fnJaroWinklerRangeAndRefusalSpec : ChangeSpec := { name := "fnJaroWinklerRangeAndRefusal", fn := fun _ => fun
  | [d1, d2] => { results := [.lit (.bool true)], args := [d1, d2] }
  | _ => none }
def fnJaroWinklerRangeAndRefusalRow : OpenClaim := { program := "qxb6600227a", sum := "dae79d9ca3b3944ba3fb5dc762d4f6b83ea955c8cd217223ab8331beeebf7a27", func := "example.com/orderly-gate/orderly-gate/zzlaws_root_b1.FnJaroWinklerRangeAndRefusal", spec := "fnJaroWinklerRangeAndRefusal", apart := false }
def FnJaroWinklerRangeAndRefusalSaid : Prop := fnJaroWinklerRangeAndRefusalRow.holds Try.pinned (OpenSpec.ofChange fnJaroWinklerRangeAndRefusalSpec)

/-- ITS FALSE NEIGHBOUR: 'it returns false'. Refute it at one input. -/
def fnJaroWinklerRangeAndRefusalWrong : ChangeSpec := { name := "fnJaroWinklerRangeAndRefusal", fn := fun _ => fun
  | [d1, d2] => { results := [.lit (.bool false)], args := [d1, d2] }
  | _ => none }
def FnJaroWinklerRangeAndRefusalWrongFalsely : Prop := fnJaroWinklerRangeAndRefusalRow.holds Try.pinned (OpenSpec.ofChange fnJaroWinklerRangeAndRefusalWrong)

/-- 'zzlaws_root_b1.FnJaroWinklerPrefixFloor': WHATEVER THE INPUT: true; the input reads as it did. -/
def fnJaroWinklerPrefixFloorSpec : ChangeSpec := { name := "fnJaroWinklerPrefixFloor", fn := fun _ => fun
  | [d1, d2] => { results := [.lit (.bool true)], args := [d1, d2] }
  | _ => none }
def fnJaroWinklerPrefixFloorRow : OpenClaim := { program := "qxb6600227a", sum := "dae79d9ca3b3944ba3fb5dc762d4f6b83ea955c8cd217223ab8331beeebf7a27", func := "example.com/orderly-gate/orderly-gate/zzlaws_root_b1.FnJaroWinklerPrefixFloor", spec := "fnJaroWinklerPrefixFloor", apart := false }
def FnJaroWinklerPrefixFloorSaid : Prop := fnJaroWinklerPrefixFloorRow.holds Try.pinned (OpenSpec.ofChange fnJaroWinklerPrefixFloorSpec)

/-- ITS FALSE NEIGHBOUR: 'it returns false'. Refute it at one input. -/
def fnJaroWinklerPrefixFloorWrong : ChangeSpec := { name := "fnJaroWinklerPrefixFloor", fn := fun _ => fun
  | [d1, d2] => { results := [.lit (.bool false)], args := [d1, d2] }
  | _ => none }
def FnJaroWinklerPrefixFloorWrongFalsely : Prop := fnJaroWinklerPrefixFloorRow.holds Try.pinned (OpenSpec.ofChange fnJaroWinklerPrefixFloorWrong)

/-- 'zzlaws_root_b1.FnEditZeroMeansJaroWinklerOne': WHATEVER THE INPUT: true; the input reads as it did. -/
def fnEditZeroMeansJaroWinklerOneSpec : ChangeSpec := { name := "fnEditZeroMeansJaroWinklerOne", fn := fun _ => fun
  | [d1, d2] => { results := [.lit (.bool true)], args := [d1, d2] }
  | _ => none }
def fnEditZeroMeansJaroWinklerOneRow : OpenClaim := { program := "qxb6600227a", sum := "dae79d9ca3b3944ba3fb5dc762d4f6b83ea955c8cd217223ab8331beeebf7a27", func := "example.com/orderly-gate/orderly-gate/zzlaws_root_b1.FnEditZeroMeansJaroWinklerOne", spec := "fnEditZeroMeansJaroWinklerOne", apart := false }
def FnEditZeroMeansJaroWinklerOneSaid : Prop := fnEditZeroMeansJaroWinklerOneRow.holds Try.pinned (OpenSpec.ofChange fnEditZeroMeansJaroWinklerOneSpec)

/-- ITS FALSE NEIGHBOUR: 'it returns false'. Refute it at one input. -/
def fnEditZeroMeansJaroWinklerOneWrong : ChangeSpec := { name := "fnEditZeroMeansJaroWinklerOne", fn := fun _ => fun
  | [d1, d2] => { results := [.lit (.bool false)], args := [d1, d2] }
  | _ => none }
def FnEditZeroMeansJaroWinklerOneWrongFalsely : Prop := fnEditZeroMeansJaroWinklerOneRow.holds Try.pinned (OpenSpec.ofChange fnEditZeroMeansJaroWinklerOneWrong)

end Rows
end Go.Proofs.Qxb6600227a

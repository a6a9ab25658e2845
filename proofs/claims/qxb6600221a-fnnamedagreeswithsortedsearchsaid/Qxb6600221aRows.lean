/-
  No cell of these rows narrows 'for every input' (looked for: loops, veiled, ifaces, maps, wideKeys, modest, calm, conditions, laid).
  DERIVED. THE GIVEN ROWS OF THIS SEAT. 3 by the template 'for every input the law returns true; each argument reads behind the call as it read before'; 0 by the template 'total and deterministic' (their statements: Qxb6600221aTotals.lean).
  GIVEN WITH THE SEED: the statements are not yours to turn. If you find one false, say at which input.
  Laid BY PROGRAM, IN A SANDBOX (cutbox-rows.mjs): the forced cells as the released guide's own fill.sh prints them over the translation aa7c1b38dcf6a0bb… (all of the seat's roots in one cut). By AI agents, Wed Nov 11 2026. No macro, syntax, notation, axiom, sorry.
-/
import Derived.Test.Qxb6600221aChecked
import GoSem.Claim
import GoSem.ClaimJoined
import GoSem.ClaimMapViews
import Derived.JoinedTies
import Derived.KernelRfl
namespace Go.Proofs.Qxb6600221a
/- THE CELL 'sum', in the pinned program and in every row, IS THE sha256 OF THE DUMP (.gsa) THAT Qxb6600221aProg.lean LOADS. Nothing in Lean hashes anything: it is a label: what it is worth is what the hold of that sum in a sandbox is worth. -/
noncomputable def Try.pinned : Pinned := { name := "qxb6600221a", sum := "aa7c1b38dcf6a0bb23224f2fa2170b0a8018354672764c2afa46e90f5edc5184", checked := Try.checked }
namespace Rows
def none {H : Type} : Left H := { results := [], args := [] }

/-- 'zzlaws_pkg_plan_b1.FnNamedAgreesWithSortedSearch': WHATEVER THE INPUT: true; the input reads as it did. -/
def fnNamedAgreesWithSortedSearchSpec : ChangeSpec := { name := "fnNamedAgreesWithSortedSearch", fn := fun _ => fun
  | [d1, d2] => { results := [.lit (.bool true)], args := [d1, d2] }
  | _ => none }
def fnNamedAgreesWithSortedSearchRow : OpenClaim := { program := "qxb6600221a", sum := "aa7c1b38dcf6a0bb23224f2fa2170b0a8018354672764c2afa46e90f5edc5184", func := "example.com/vestwright/vestwright/zzlaws_pkg_plan_b1.FnNamedAgreesWithSortedSearch", spec := "fnNamedAgreesWithSortedSearch", apart := false }
def FnNamedAgreesWithSortedSearchSaid : Prop := fnNamedAgreesWithSortedSearchRow.holds Try.pinned (OpenSpec.ofChange fnNamedAgreesWithSortedSearchSpec)

/-- ITS FALSE NEIGHBOUR: 'it returns false'. Refute it at one input. -/
def fnNamedAgreesWithSortedSearchWrong : ChangeSpec := { name := "fnNamedAgreesWithSortedSearch", fn := fun _ => fun
  | [d1, d2] => { results := [.lit (.bool false)], args := [d1, d2] }
  | _ => none }
def FnNamedAgreesWithSortedSearchWrongFalsely : Prop := fnNamedAgreesWithSortedSearchRow.holds Try.pinned (OpenSpec.ofChange fnNamedAgreesWithSortedSearchWrong)

/-- 'zzlaws_pkg_plan_b1.FnNamedOfConcatenationIsEitherHalf': WHATEVER THE INPUT: true; the input reads as it did. -/
def fnNamedOfConcatenationIsEitherHalfSpec : ChangeSpec := { name := "fnNamedOfConcatenationIsEitherHalf", fn := fun _ => fun
  | [d1, d2, d3] => { results := [.lit (.bool true)], args := [d1, d2, d3] }
  | _ => none }
def fnNamedOfConcatenationIsEitherHalfRow : OpenClaim := { program := "qxb6600221a", sum := "aa7c1b38dcf6a0bb23224f2fa2170b0a8018354672764c2afa46e90f5edc5184", func := "example.com/vestwright/vestwright/zzlaws_pkg_plan_b1.FnNamedOfConcatenationIsEitherHalf", spec := "fnNamedOfConcatenationIsEitherHalf", apart := false }
def FnNamedOfConcatenationIsEitherHalfSaid : Prop := fnNamedOfConcatenationIsEitherHalfRow.holds Try.pinned (OpenSpec.ofChange fnNamedOfConcatenationIsEitherHalfSpec)

/-- ITS FALSE NEIGHBOUR: 'it returns false'. Refute it at one input. -/
def fnNamedOfConcatenationIsEitherHalfWrong : ChangeSpec := { name := "fnNamedOfConcatenationIsEitherHalf", fn := fun _ => fun
  | [d1, d2, d3] => { results := [.lit (.bool false)], args := [d1, d2, d3] }
  | _ => none }
def FnNamedOfConcatenationIsEitherHalfWrongFalsely : Prop := fnNamedOfConcatenationIsEitherHalfRow.holds Try.pinned (OpenSpec.ofChange fnNamedOfConcatenationIsEitherHalfWrong)

/-- 'zzlaws_pkg_plan_b1.FnNamedLosesNameWithItsCopiesAndRegainsItWithOne': WHATEVER THE INPUT: true; the input reads as it did. -/
def fnNamedLosesNameWithItsCopiesAndRegainsItWithOneSpec : ChangeSpec := { name := "fnNamedLosesNameWithItsCopiesAndRegainsItWithOne", fn := fun _ => fun
  | [d1, d2] => { results := [.lit (.bool true)], args := [d1, d2] }
  | _ => none }
def fnNamedLosesNameWithItsCopiesAndRegainsItWithOneRow : OpenClaim := { program := "qxb6600221a", sum := "aa7c1b38dcf6a0bb23224f2fa2170b0a8018354672764c2afa46e90f5edc5184", func := "example.com/vestwright/vestwright/zzlaws_pkg_plan_b1.FnNamedLosesNameWithItsCopiesAndRegainsItWithOne", spec := "fnNamedLosesNameWithItsCopiesAndRegainsItWithOne", apart := false }
def FnNamedLosesNameWithItsCopiesAndRegainsItWithOneSaid : Prop := fnNamedLosesNameWithItsCopiesAndRegainsItWithOneRow.holds Try.pinned (OpenSpec.ofChange fnNamedLosesNameWithItsCopiesAndRegainsItWithOneSpec)

/-- ITS FALSE NEIGHBOUR: 'it returns false'. Refute it at one input. -/
def fnNamedLosesNameWithItsCopiesAndRegainsItWithOneWrong : ChangeSpec := { name := "fnNamedLosesNameWithItsCopiesAndRegainsItWithOne", fn := fun _ => fun
  | [d1, d2] => { results := [.lit (.bool false)], args := [d1, d2] }
  | _ => none }
def FnNamedLosesNameWithItsCopiesAndRegainsItWithOneWrongFalsely : Prop := fnNamedLosesNameWithItsCopiesAndRegainsItWithOneRow.holds Try.pinned (OpenSpec.ofChange fnNamedLosesNameWithItsCopiesAndRegainsItWithOneWrong)

end Rows
end Go.Proofs.Qxb6600221a

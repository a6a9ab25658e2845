/-
  No cell of these rows narrows 'for every input' (looked for: loops, veiled, ifaces, maps, wideKeys, modest, calm, conditions, laid).
  DERIVED. THE GIVEN ROWS OF THIS SEAT. 3 by the template 'for every input the law returns true; each argument reads behind the call as it read before'; 0 by the template 'total and deterministic' (their statements: Qxb6000093aTotals.lean).
  GIVEN WITH THE SEED: the statements are not yours to turn. If you find one false, say at which input.
  Laid BY PROGRAM, IN A SANDBOX (cutbox-rows.mjs): the forced cells as the released guide's own fill.sh prints them over the translation d84c3327208122fe… (all of the seat's roots in one cut). By AI agents, Wed Nov 11 2026. No macro, syntax, notation, axiom, sorry.
-/
import Derived.Test.Qxb6000093aChecked
import GoSem.Claim
import GoSem.ClaimJoined
import GoSem.ClaimMapViews
import Derived.JoinedTies
import Derived.KernelRfl
namespace Go.Proofs.Qxb6000093a
/- THE CELL 'sum', in the pinned program and in every row, IS THE sha256 OF THE DUMP (.gsa) THAT Qxb6000093aProg.lean LOADS. Nothing in Lean hashes anything: it is a label: what it is worth is what the hold of that sum in a sandbox is worth. -/
noncomputable def Try.pinned : Pinned := { name := "qxb6000093a", sum := "d84c3327208122feb913351bef7bd8ca9aaa8145d624f065a3e79b4dbf77504f", checked := Try.checked }
namespace Rows
def none {H : Type} : Left H := { results := [], args := [] }

/-- 'zzlaws_cmd_b1.FnAppendSpacesExact': WHATEVER THE INPUT: true; the input reads as it did. -/
def fnAppendSpacesExactSpec : ChangeSpec := { name := "fnAppendSpacesExact", fn := fun _ => fun
  | [d1, d2] => { results := [.lit (.bool true)], args := [d1, d2] }
  | _ => none }
def fnAppendSpacesExactRow : OpenClaim := { program := "qxb6000093a", sum := "d84c3327208122feb913351bef7bd8ca9aaa8145d624f065a3e79b4dbf77504f", func := "example.com/vestbook/vestbook/zzlaws_cmd_b1.FnAppendSpacesExact", spec := "fnAppendSpacesExact", apart := false }
def FnAppendSpacesExactSaid : Prop := fnAppendSpacesExactRow.holds Try.pinned (OpenSpec.ofChange fnAppendSpacesExactSpec)

/-- ITS FALSE NEIGHBOUR: 'it returns false'. Refute it at one input. -/
def fnAppendSpacesExactWrong : ChangeSpec := { name := "fnAppendSpacesExact", fn := fun _ => fun
  | [d1, d2] => { results := [.lit (.bool false)], args := [d1, d2] }
  | _ => none }
def FnAppendSpacesExactWrongFalsely : Prop := fnAppendSpacesExactRow.holds Try.pinned (OpenSpec.ofChange fnAppendSpacesExactWrong)

/-- 'zzlaws_cmd_b1.FnAppendSpacesSplits': WHATEVER THE INPUT: true; the input reads as it did. -/
def fnAppendSpacesSplitsSpec : ChangeSpec := { name := "fnAppendSpacesSplits", fn := fun _ => fun
  | [d1, d2, d3] => { results := [.lit (.bool true)], args := [d1, d2, d3] }
  | _ => none }
def fnAppendSpacesSplitsRow : OpenClaim := { program := "qxb6000093a", sum := "d84c3327208122feb913351bef7bd8ca9aaa8145d624f065a3e79b4dbf77504f", func := "example.com/vestbook/vestbook/zzlaws_cmd_b1.FnAppendSpacesSplits", spec := "fnAppendSpacesSplits", apart := false }
def FnAppendSpacesSplitsSaid : Prop := fnAppendSpacesSplitsRow.holds Try.pinned (OpenSpec.ofChange fnAppendSpacesSplitsSpec)

/-- ITS FALSE NEIGHBOUR: 'it returns false'. Refute it at one input. -/
def fnAppendSpacesSplitsWrong : ChangeSpec := { name := "fnAppendSpacesSplits", fn := fun _ => fun
  | [d1, d2, d3] => { results := [.lit (.bool false)], args := [d1, d2, d3] }
  | _ => none }
def FnAppendSpacesSplitsWrongFalsely : Prop := fnAppendSpacesSplitsRow.holds Try.pinned (OpenSpec.ofChange fnAppendSpacesSplitsWrong)

/-- 'zzlaws_cmd_b1.FnNewPageTableExact': WHATEVER THE INPUT: true; the input reads as it did. -/
def fnNewPageTableExactSpec : ChangeSpec := { name := "fnNewPageTableExact", fn := fun _ => fun
  | [d1, d2, d3, d4, d5] => { results := [.lit (.bool true)], args := [d1, d2, d3, d4, d5] }
  | _ => none }
def fnNewPageTableExactRow : OpenClaim := { program := "qxb6000093a", sum := "d84c3327208122feb913351bef7bd8ca9aaa8145d624f065a3e79b4dbf77504f", func := "example.com/vestbook/vestbook/zzlaws_cmd_b1.FnNewPageTableExact", spec := "fnNewPageTableExact", apart := false }
def FnNewPageTableExactSaid : Prop := fnNewPageTableExactRow.holds Try.pinned (OpenSpec.ofChange fnNewPageTableExactSpec)

/-- ITS FALSE NEIGHBOUR: 'it returns false'. Refute it at one input. -/
def fnNewPageTableExactWrong : ChangeSpec := { name := "fnNewPageTableExact", fn := fun _ => fun
  | [d1, d2, d3, d4, d5] => { results := [.lit (.bool false)], args := [d1, d2, d3, d4, d5] }
  | _ => none }
def FnNewPageTableExactWrongFalsely : Prop := fnNewPageTableExactRow.holds Try.pinned (OpenSpec.ofChange fnNewPageTableExactWrong)

end Rows
end Go.Proofs.Qxb6000093a

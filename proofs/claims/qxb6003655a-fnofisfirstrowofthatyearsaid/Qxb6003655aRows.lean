/-
  No cell of these rows narrows 'for every input' (looked for: loops, veiled, ifaces, maps, wideKeys, modest, calm, conditions, laid).
  DERIVED. THE GIVEN ROWS OF THIS SEAT. 2 by the template 'for every input the law returns true; each argument reads behind the call as it read before'; 0 by the template 'total and deterministic' (their statements: Qxb6003655aTotals.lean).
  GIVEN WITH THE SEED: the statements are not yours to turn. If you find one false, say at which input.
  Laid BY PROGRAM, IN A SANDBOX (cutbox-rows.mjs): the forced cells as the released guide's own fill.sh prints them over the translation 513faa2e606a8fc8… (all of the seat's roots in one cut). By AI agents, Wed Nov 11 2026. No macro, syntax, notation, axiom, sorry.
-/
import Derived.Test.Qxb6003655aChecked
import GoSem.Claim
import GoSem.ClaimJoined
import GoSem.ClaimMapViews
import Derived.JoinedTies
import Derived.KernelRfl
namespace Go.Proofs.Qxb6003655a
/- THE CELL 'sum', in the pinned program and in every row, IS THE sha256 OF THE DUMP (.gsa) THAT Qxb6003655aProg.lean LOADS. Nothing in Lean hashes anything: it is a label: what it is worth is what the hold of that sum in a sandbox is worth. -/
noncomputable def Try.pinned : Pinned := { name := "qxb6003655a", sum := "513faa2e606a8fc8fb7d481bfe948568b35f02f838076628c972c5a5c8867829", checked := Try.checked }
namespace Rows
def none {H : Type} : Left H := { results := [], args := [] }

/-- 'zzlaws_grades_b1.FnOfIsFirstRowOfThatYear': WHATEVER THE INPUT: true; the input reads as it did. -/
def fnOfIsFirstRowOfThatYearSpec : ChangeSpec := { name := "fnOfIsFirstRowOfThatYear", fn := fun _ => fun
  | [d1, d2, d3, d4, d5] => { results := [.lit (.bool true)], args := [d1, d2, d3, d4, d5] }
  | _ => none }
def fnOfIsFirstRowOfThatYearRow : OpenClaim := { program := "qxb6003655a", sum := "513faa2e606a8fc8fb7d481bfe948568b35f02f838076628c972c5a5c8867829", func := "example.com/vestwright/vestwright/zzlaws_grades_b1.FnOfIsFirstRowOfThatYear", spec := "fnOfIsFirstRowOfThatYear", apart := false }
def FnOfIsFirstRowOfThatYearSaid : Prop := fnOfIsFirstRowOfThatYearRow.holds Try.pinned (OpenSpec.ofChange fnOfIsFirstRowOfThatYearSpec)

/-- ITS FALSE NEIGHBOUR: 'it returns false'. Refute it at one input. -/
def fnOfIsFirstRowOfThatYearWrong : ChangeSpec := { name := "fnOfIsFirstRowOfThatYear", fn := fun _ => fun
  | [d1, d2, d3, d4, d5] => { results := [.lit (.bool false)], args := [d1, d2, d3, d4, d5] }
  | _ => none }
def FnOfIsFirstRowOfThatYearWrongFalsely : Prop := fnOfIsFirstRowOfThatYearRow.holds Try.pinned (OpenSpec.ofChange fnOfIsFirstRowOfThatYearWrong)

/-- 'zzlaws_grades_b1.FnInternNumbersTextsByFirstAppearance': WHATEVER THE INPUT: true; the input reads as it did. -/
def fnInternNumbersTextsByFirstAppearanceSpec : ChangeSpec := { name := "fnInternNumbersTextsByFirstAppearance", fn := fun _ => fun
  | [d] => { results := [.lit (.bool true)], args := [d] }
  | _ => none }
def fnInternNumbersTextsByFirstAppearanceRow : OpenClaim := { program := "qxb6003655a", sum := "513faa2e606a8fc8fb7d481bfe948568b35f02f838076628c972c5a5c8867829", func := "example.com/vestwright/vestwright/zzlaws_grades_b1.FnInternNumbersTextsByFirstAppearance", spec := "fnInternNumbersTextsByFirstAppearance", apart := false }
def FnInternNumbersTextsByFirstAppearanceSaid : Prop := fnInternNumbersTextsByFirstAppearanceRow.holds Try.pinned (OpenSpec.ofChange fnInternNumbersTextsByFirstAppearanceSpec)

/-- ITS FALSE NEIGHBOUR: 'it returns false'. Refute it at one input. -/
def fnInternNumbersTextsByFirstAppearanceWrong : ChangeSpec := { name := "fnInternNumbersTextsByFirstAppearance", fn := fun _ => fun
  | [d] => { results := [.lit (.bool false)], args := [d] }
  | _ => none }
def FnInternNumbersTextsByFirstAppearanceWrongFalsely : Prop := fnInternNumbersTextsByFirstAppearanceRow.holds Try.pinned (OpenSpec.ofChange fnInternNumbersTextsByFirstAppearanceWrong)

end Rows
end Go.Proofs.Qxb6003655a

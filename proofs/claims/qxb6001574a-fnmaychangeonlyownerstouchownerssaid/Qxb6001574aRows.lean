/-
  No cell of these rows narrows 'for every input' (looked for: loops, veiled, ifaces, maps, wideKeys, modest, calm, conditions, laid).
  DERIVED. THE GIVEN ROWS OF THIS SEAT. 2 by the template 'for every input the law returns true; each argument reads behind the call as it read before'; 0 by the template 'total and deterministic' (their statements: Qxb6001574aTotals.lean).
  GIVEN WITH THE SEED: the statements are not yours to turn. If you find one false, say at which input.
  Laid BY PROGRAM, IN A SANDBOX (cutbox-rows.mjs): the forced cells as the released guide's own fill.sh prints them over the translation 1ba168a6e9cbfe4d… (all of the seat's roots in one cut). By AI agents, Wed Nov 11 2026. No macro, syntax, notation, axiom, sorry.
-/
import Derived.Test.Qxb6001574aChecked
import GoSem.Claim
import GoSem.ClaimJoined
import GoSem.ClaimMapViews
import Derived.JoinedTies
import Derived.KernelRfl
namespace Go.Proofs.Qxb6001574a
/- THE CELL 'sum', in the pinned program and in every row, IS THE sha256 OF THE DUMP (.gsa) THAT Qxb6001574aProg.lean LOADS. Nothing in Lean hashes anything: it is a label: what it is worth is what the hold of that sum in a sandbox is worth. -/
noncomputable def Try.pinned : Pinned := { name := "qxb6001574a", sum := "1ba168a6e9cbfe4d118824ab3ab4954153dc0b152d53e4c88e2f906e0ad3f317", checked := Try.checked }
namespace Rows
def none {H : Type} : Left H := { results := [], args := [] }

/-- 'zzlaws_internal_store_b1.FnMayChangeAuthorityOrdered': WHATEVER THE INPUT: true; the input reads as it did. -/
def fnMayChangeAuthorityOrderedSpec : ChangeSpec := { name := "fnMayChangeAuthorityOrdered", fn := fun _ => fun
  | [d1, d2, d3, d4] => { results := [.lit (.bool true)], args := [d1, d2, d3, d4] }
  | _ => none }
def fnMayChangeAuthorityOrderedRow : OpenClaim := { program := "qxb6001574a", sum := "1ba168a6e9cbfe4d118824ab3ab4954153dc0b152d53e4c88e2f906e0ad3f317", func := "example.com/hedgerow/hedgerow/zzlaws_internal_store_b1.FnMayChangeAuthorityOrdered", spec := "fnMayChangeAuthorityOrdered", apart := false }
def FnMayChangeAuthorityOrderedSaid : Prop := fnMayChangeAuthorityOrderedRow.holds Try.pinned (OpenSpec.ofChange fnMayChangeAuthorityOrderedSpec)

/-- ITS FALSE NEIGHBOUR: 'it returns false'. Refute it at one input. -/
def fnMayChangeAuthorityOrderedWrong : ChangeSpec := { name := "fnMayChangeAuthorityOrdered", fn := fun _ => fun
  | [d1, d2, d3, d4] => { results := [.lit (.bool false)], args := [d1, d2, d3, d4] }
  | _ => none }
def FnMayChangeAuthorityOrderedWrongFalsely : Prop := fnMayChangeAuthorityOrderedRow.holds Try.pinned (OpenSpec.ofChange fnMayChangeAuthorityOrderedWrong)

/-- 'zzlaws_internal_store_b1.FnMayChangeOnlyOwnersTouchOwners': WHATEVER THE INPUT: true; the input reads as it did. -/
def fnMayChangeOnlyOwnersTouchOwnersSpec : ChangeSpec := { name := "fnMayChangeOnlyOwnersTouchOwners", fn := fun _ => fun
  | [d1, d2, d3, d4] => { results := [.lit (.bool true)], args := [d1, d2, d3, d4] }
  | _ => none }
def fnMayChangeOnlyOwnersTouchOwnersRow : OpenClaim := { program := "qxb6001574a", sum := "1ba168a6e9cbfe4d118824ab3ab4954153dc0b152d53e4c88e2f906e0ad3f317", func := "example.com/hedgerow/hedgerow/zzlaws_internal_store_b1.FnMayChangeOnlyOwnersTouchOwners", spec := "fnMayChangeOnlyOwnersTouchOwners", apart := false }
def FnMayChangeOnlyOwnersTouchOwnersSaid : Prop := fnMayChangeOnlyOwnersTouchOwnersRow.holds Try.pinned (OpenSpec.ofChange fnMayChangeOnlyOwnersTouchOwnersSpec)

/-- ITS FALSE NEIGHBOUR: 'it returns false'. Refute it at one input. -/
def fnMayChangeOnlyOwnersTouchOwnersWrong : ChangeSpec := { name := "fnMayChangeOnlyOwnersTouchOwners", fn := fun _ => fun
  | [d1, d2, d3, d4] => { results := [.lit (.bool false)], args := [d1, d2, d3, d4] }
  | _ => none }
def FnMayChangeOnlyOwnersTouchOwnersWrongFalsely : Prop := fnMayChangeOnlyOwnersTouchOwnersRow.holds Try.pinned (OpenSpec.ofChange fnMayChangeOnlyOwnersTouchOwnersWrong)

end Rows
end Go.Proofs.Qxb6001574a

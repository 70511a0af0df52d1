/-
  No cell of these rows narrows 'for every input' (looked for: loops, veiled, ifaces, maps, wideKeys, modest, calm, conditions, laid).
  DERIVED. THE GIVEN ROWS OF THIS SEAT. 2 by the template 'for every input the law returns true; each argument reads behind the call as it read before'; 0 by the template 'total and deterministic' (their statements: Qxb6626203aTotals.lean).
  GIVEN WITH THE SEED: the statements are not yours to turn. If you find one false, say at which input.
  Laid BY PROGRAM, IN A SANDBOX (cutbox-rows.mjs): the forced cells as the released guide's own fill.sh prints them over the translation e5af0d4ec65fe6d1… (all of the seat's roots in one cut). By AI agents, Wed Nov 11 2026. No macro, syntax, notation, axiom, sorry.
-/
import Derived.Test.Qxb6626203aChecked
import GoSem.Claim
import GoSem.ClaimJoined
import GoSem.ClaimMapViews
import Derived.JoinedTies
import Derived.KernelRfl
namespace Go.Proofs.Qxb6626203a
/- THE CELL 'sum', in the pinned program and in every row, IS THE sha256 OF THE DUMP (.gsa) THAT Qxb6626203aProg.lean LOADS. Nothing in Lean hashes anything: it is a label: what it is worth is what the hold of that sum in a sandbox is worth. -/
noncomputable def Try.pinned : Pinned := { name := "qxb6626203a", sum := "e5af0d4ec65fe6d1003f57a490bc0154c5a0144e5f960c12dbcbb059f4321adc", checked := Try.checked }
namespace Rows
def none {H : Type} : Left H := { results := [], args := [] }

/-- 'zzlaws_root_b1.FnOwnsPrecedenceSplitsBetweenRoles': WHATEVER THE INPUT: true; the input reads as it did. -/
def fnOwnsPrecedenceSplitsBetweenRolesSpec : ChangeSpec := { name := "fnOwnsPrecedenceSplitsBetweenRoles", fn := fun _ => fun
  | [d1, d2] => { results := [.lit (.bool true)], args := [d1, d2] }
  | _ => none }
def fnOwnsPrecedenceSplitsBetweenRolesRow : OpenClaim := { program := "qxb6626203a", sum := "e5af0d4ec65fe6d1003f57a490bc0154c5a0144e5f960c12dbcbb059f4321adc", func := "example.com/anchorline/anchorline/zzlaws_root_b1.FnOwnsPrecedenceSplitsBetweenRoles", spec := "fnOwnsPrecedenceSplitsBetweenRoles", apart := false }
def FnOwnsPrecedenceSplitsBetweenRolesSaid : Prop := fnOwnsPrecedenceSplitsBetweenRolesRow.holds Try.pinned (OpenSpec.ofChange fnOwnsPrecedenceSplitsBetweenRolesSpec)

/-- ITS FALSE NEIGHBOUR: 'it returns false'. Refute it at one input. -/
def fnOwnsPrecedenceSplitsBetweenRolesWrong : ChangeSpec := { name := "fnOwnsPrecedenceSplitsBetweenRoles", fn := fun _ => fun
  | [d1, d2] => { results := [.lit (.bool false)], args := [d1, d2] }
  | _ => none }
def FnOwnsPrecedenceSplitsBetweenRolesWrongFalsely : Prop := fnOwnsPrecedenceSplitsBetweenRolesRow.holds Try.pinned (OpenSpec.ofChange fnOwnsPrecedenceSplitsBetweenRolesWrong)

/-- 'zzlaws_root_b1.FnOwnsPrecedenceSMFBelowISMFAbove': WHATEVER THE INPUT: true; the input reads as it did. -/
def fnOwnsPrecedenceSMFBelowISMFAboveSpec : ChangeSpec := { name := "fnOwnsPrecedenceSMFBelowISMFAbove", fn := fun _ => fun
  | [d1, d2] => { results := [.lit (.bool true)], args := [d1, d2] }
  | _ => none }
def fnOwnsPrecedenceSMFBelowISMFAboveRow : OpenClaim := { program := "qxb6626203a", sum := "e5af0d4ec65fe6d1003f57a490bc0154c5a0144e5f960c12dbcbb059f4321adc", func := "example.com/anchorline/anchorline/zzlaws_root_b1.FnOwnsPrecedenceSMFBelowISMFAbove", spec := "fnOwnsPrecedenceSMFBelowISMFAbove", apart := false }
def FnOwnsPrecedenceSMFBelowISMFAboveSaid : Prop := fnOwnsPrecedenceSMFBelowISMFAboveRow.holds Try.pinned (OpenSpec.ofChange fnOwnsPrecedenceSMFBelowISMFAboveSpec)

/-- ITS FALSE NEIGHBOUR: 'it returns false'. Refute it at one input. -/
def fnOwnsPrecedenceSMFBelowISMFAboveWrong : ChangeSpec := { name := "fnOwnsPrecedenceSMFBelowISMFAbove", fn := fun _ => fun
  | [d1, d2] => { results := [.lit (.bool false)], args := [d1, d2] }
  | _ => none }
def FnOwnsPrecedenceSMFBelowISMFAboveWrongFalsely : Prop := fnOwnsPrecedenceSMFBelowISMFAboveRow.holds Try.pinned (OpenSpec.ofChange fnOwnsPrecedenceSMFBelowISMFAboveWrong)

end Rows
end Go.Proofs.Qxb6626203a

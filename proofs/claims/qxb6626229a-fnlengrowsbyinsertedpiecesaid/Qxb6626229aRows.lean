/-
  No cell of these rows narrows 'for every input' (looked for: loops, veiled, ifaces, maps, wideKeys, modest, calm, conditions, laid).
  DERIVED. THE GIVEN ROWS OF THIS SEAT. 2 by the template 'for every input the law returns true; each argument reads behind the call as it read before'; 0 by the template 'total and deterministic' (their statements: Qxb6626229aTotals.lean).
  GIVEN WITH THE SEED: the statements are not yours to turn. If you find one false, say at which input.
  Laid BY PROGRAM, IN A SANDBOX (cutbox-rows.mjs): the forced cells as the released guide's own fill.sh prints them over the translation e6b96023b1ece8af… (all of the seat's roots in one cut). By AI agents, Wed Nov 11 2026. No macro, syntax, notation, axiom, sorry.
-/
import Derived.Test.Qxb6626229aChecked
import GoSem.Claim
import GoSem.ClaimJoined
import GoSem.ClaimMapViews
import Derived.JoinedTies
import Derived.KernelRfl
namespace Go.Proofs.Qxb6626229a
/- THE CELL 'sum', in the pinned program and in every row, IS THE sha256 OF THE DUMP (.gsa) THAT Qxb6626229aProg.lean LOADS. Nothing in Lean hashes anything: it is a label: what it is worth is what the hold of that sum in a sandbox is worth. -/
noncomputable def Try.pinned : Pinned := { name := "qxb6626229a", sum := "e6b96023b1ece8afb1bd00f1f9917972bfd13e9df02164559eef5d04408565e6", checked := Try.checked }
namespace Rows
def none {H : Type} : Left H := { results := [], args := [] }

/-- 'zzlaws_internal_protocol_b1.FnLenIsJoinedLengthAtAnyCut': WHATEVER THE INPUT: true; the input reads as it did. -/
def fnLenIsJoinedLengthAtAnyCutSpec : ChangeSpec := { name := "fnLenIsJoinedLengthAtAnyCut", fn := fun _ => fun
  | [d1, d2] => { results := [.lit (.bool true)], args := [d1, d2] }
  | _ => none }
def fnLenIsJoinedLengthAtAnyCutRow : OpenClaim := { program := "qxb6626229a", sum := "e6b96023b1ece8afb1bd00f1f9917972bfd13e9df02164559eef5d04408565e6", func := "example.com/portcullis/portcullis/zzlaws_internal_protocol_b1.FnLenIsJoinedLengthAtAnyCut", spec := "fnLenIsJoinedLengthAtAnyCut", apart := false }
def FnLenIsJoinedLengthAtAnyCutSaid : Prop := fnLenIsJoinedLengthAtAnyCutRow.holds Try.pinned (OpenSpec.ofChange fnLenIsJoinedLengthAtAnyCutSpec)

/-- ITS FALSE NEIGHBOUR: 'it returns false'. Refute it at one input. -/
def fnLenIsJoinedLengthAtAnyCutWrong : ChangeSpec := { name := "fnLenIsJoinedLengthAtAnyCut", fn := fun _ => fun
  | [d1, d2] => { results := [.lit (.bool false)], args := [d1, d2] }
  | _ => none }
def FnLenIsJoinedLengthAtAnyCutWrongFalsely : Prop := fnLenIsJoinedLengthAtAnyCutRow.holds Try.pinned (OpenSpec.ofChange fnLenIsJoinedLengthAtAnyCutWrong)

/-- 'zzlaws_internal_protocol_b1.FnLenGrowsByInsertedPiece': WHATEVER THE INPUT: true; the input reads as it did. -/
def fnLenGrowsByInsertedPieceSpec : ChangeSpec := { name := "fnLenGrowsByInsertedPiece", fn := fun _ => fun
  | [d1, d2, d3, d4] => { results := [.lit (.bool true)], args := [d1, d2, d3, d4] }
  | _ => none }
def fnLenGrowsByInsertedPieceRow : OpenClaim := { program := "qxb6626229a", sum := "e6b96023b1ece8afb1bd00f1f9917972bfd13e9df02164559eef5d04408565e6", func := "example.com/portcullis/portcullis/zzlaws_internal_protocol_b1.FnLenGrowsByInsertedPiece", spec := "fnLenGrowsByInsertedPiece", apart := false }
def FnLenGrowsByInsertedPieceSaid : Prop := fnLenGrowsByInsertedPieceRow.holds Try.pinned (OpenSpec.ofChange fnLenGrowsByInsertedPieceSpec)

/-- ITS FALSE NEIGHBOUR: 'it returns false'. Refute it at one input. -/
def fnLenGrowsByInsertedPieceWrong : ChangeSpec := { name := "fnLenGrowsByInsertedPiece", fn := fun _ => fun
  | [d1, d2, d3, d4] => { results := [.lit (.bool false)], args := [d1, d2, d3, d4] }
  | _ => none }
def FnLenGrowsByInsertedPieceWrongFalsely : Prop := fnLenGrowsByInsertedPieceRow.holds Try.pinned (OpenSpec.ofChange fnLenGrowsByInsertedPieceWrong)

end Rows
end Go.Proofs.Qxb6626229a

/-
  No cell of these rows narrows 'for every input' (looked for: loops, veiled, ifaces, maps, wideKeys, modest, calm, conditions, laid).
  DERIVED. THE GIVEN ROWS OF THIS SEAT. 2 by the template 'for every input the law returns true; each argument reads behind the call as it read before'; 0 by the template 'total and deterministic' (their statements: Qxb6626291aTotals.lean).
  GIVEN WITH THE SEED: the statements are not yours to turn. If you find one false, say at which input.
  Laid BY PROGRAM, IN A SANDBOX (cutbox-rows.mjs): the forced cells as the released guide's own fill.sh prints them over the translation 04765915d88f824d… (all of the seat's roots in one cut). By AI agents, Wed Nov 11 2026. No macro, syntax, notation, axiom, sorry.
-/
import Derived.Test.Qxb6626291aChecked
import GoSem.Claim
import GoSem.ClaimJoined
import GoSem.ClaimMapViews
import Derived.JoinedTies
import Derived.KernelRfl
namespace Go.Proofs.Qxb6626291a
/- THE CELL 'sum', in the pinned program and in every row, IS THE sha256 OF THE DUMP (.gsa) THAT Qxb6626291aProg.lean LOADS. Nothing in Lean hashes anything: it is a label: what it is worth is what the hold of that sum in a sandbox is worth. -/
noncomputable def Try.pinned : Pinned := { name := "qxb6626291a", sum := "04765915d88f824d7a6b682ebfae3ed2409557fb18721cafa0b0b3e951c183ab", checked := Try.checked }
namespace Rows
def none {H : Type} : Left H := { results := [], args := [] }

/-- 'zzlaws_pkg_jsontext_b1.FnMemberSplitsAtAnyCut': WHATEVER THE INPUT: true; the input reads as it did. -/
def fnMemberSplitsAtAnyCutSpec : ChangeSpec := { name := "fnMemberSplitsAtAnyCut", fn := fun _ => fun
  | [d1, d2, d3] => { results := [.lit (.bool true)], args := [d1, d2, d3] }
  | _ => none }
def fnMemberSplitsAtAnyCutRow : OpenClaim := { program := "qxb6626291a", sum := "04765915d88f824d7a6b682ebfae3ed2409557fb18721cafa0b0b3e951c183ab", func := "example.com/charterbook/charterbook/zzlaws_pkg_jsontext_b1.FnMemberSplitsAtAnyCut", spec := "fnMemberSplitsAtAnyCut", apart := false }
def FnMemberSplitsAtAnyCutSaid : Prop := fnMemberSplitsAtAnyCutRow.holds Try.pinned (OpenSpec.ofChange fnMemberSplitsAtAnyCutSpec)

/-- ITS FALSE NEIGHBOUR: 'it returns false'. Refute it at one input. -/
def fnMemberSplitsAtAnyCutWrong : ChangeSpec := { name := "fnMemberSplitsAtAnyCut", fn := fun _ => fun
  | [d1, d2, d3] => { results := [.lit (.bool false)], args := [d1, d2, d3] }
  | _ => none }
def FnMemberSplitsAtAnyCutWrongFalsely : Prop := fnMemberSplitsAtAnyCutRow.holds Try.pinned (OpenSpec.ofChange fnMemberSplitsAtAnyCutWrong)

/-- 'zzlaws_pkg_jsontext_b1.FnMemberAfterAppend': WHATEVER THE INPUT: true; the input reads as it did. -/
def fnMemberAfterAppendSpec : ChangeSpec := { name := "fnMemberAfterAppend", fn := fun _ => fun
  | [d1, d2, d3] => { results := [.lit (.bool true)], args := [d1, d2, d3] }
  | _ => none }
def fnMemberAfterAppendRow : OpenClaim := { program := "qxb6626291a", sum := "04765915d88f824d7a6b682ebfae3ed2409557fb18721cafa0b0b3e951c183ab", func := "example.com/charterbook/charterbook/zzlaws_pkg_jsontext_b1.FnMemberAfterAppend", spec := "fnMemberAfterAppend", apart := false }
def FnMemberAfterAppendSaid : Prop := fnMemberAfterAppendRow.holds Try.pinned (OpenSpec.ofChange fnMemberAfterAppendSpec)

/-- ITS FALSE NEIGHBOUR: 'it returns false'. Refute it at one input. -/
def fnMemberAfterAppendWrong : ChangeSpec := { name := "fnMemberAfterAppend", fn := fun _ => fun
  | [d1, d2, d3] => { results := [.lit (.bool false)], args := [d1, d2, d3] }
  | _ => none }
def FnMemberAfterAppendWrongFalsely : Prop := fnMemberAfterAppendRow.holds Try.pinned (OpenSpec.ofChange fnMemberAfterAppendWrong)

end Rows
end Go.Proofs.Qxb6626291a

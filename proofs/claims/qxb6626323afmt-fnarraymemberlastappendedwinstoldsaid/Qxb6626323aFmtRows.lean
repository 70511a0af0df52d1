/-
  NARROWER THAN 'FOR EVERY INPUT', by the rows' own cells (each row's printed sentence says how): FnArrayMemberLastAppendedWins: loops · FnArrayMemberAgreesWithMember: loops.
  DERIVED. THE GIVEN ROWS OF THIS SEAT. 2 by the template 'for every input the law returns true; each argument reads behind the call as it read before'; 0 by the template 'total and deterministic' (their statements: Qxb6626323aFmtTotals.lean).
  GIVEN WITH THE SEED: the statements are not yours to turn. If you find one false, say at which input.
  Laid BY PROGRAM, IN A SANDBOX (cutbox-rows.mjs): the forced cells as the released guide's own fill.sh prints them over the translation 87df006e99663c5e… (all of the seat's roots in one cut). By AI agents, Wed Nov 11 2026. No macro, syntax, notation, axiom, sorry.
-/
import Derived.Test.Qxb6626323aFmtChecked
import GoSem.Claim
import GoSem.ClaimJoined
import GoSem.ClaimMapViews
import Derived.JoinedTies
import Derived.KernelRfl
namespace Go.Proofs.Qxb6626323aFmt
/- THE CELL 'sum', in the pinned program and in every row, IS THE sha256 OF THE DUMP (.gsa) THAT Qxb6626323aFmtProg.lean LOADS. Nothing in Lean hashes anything: it is a label: what it is worth is what the hold of that sum in a sandbox is worth. -/
noncomputable def Tryf.pinned : Pinned := { name := "qxb6626323afmt", sum := "87df006e99663c5e8910f521dcb69e6edfdac0e22fdd2314ce5893b17fa19131", checked := Tryf.checked }
namespace Rows
def none {H : Type} : Left H := { results := [], args := [] }

/-- 'zzlaws_internal_jsonframe_b1.FnArrayMemberLastAppendedWins': WHATEVER THE INPUT: true; the input reads as it did. -/
def fnArrayMemberLastAppendedWinsSpec : ChangeSpec := { name := "fnArrayMemberLastAppendedWins", fn := fun _ => fun
  | [d1, d2, d3] => { results := [.lit (.bool true)], args := [d1, d2, d3] }
  | _ => none }
def fnArrayMemberLastAppendedWinsRow : OpenClaim := { program := "qxb6626323afmt", sum := "87df006e99663c5e8910f521dcb69e6edfdac0e22fdd2314ce5893b17fa19131", func := "example.com/manystrand/manystrand/zzlaws_internal_jsonframe_b1.FnArrayMemberLastAppendedWins", spec := "fnArrayMemberLastAppendedWins", stops := ["fmt.errorf"], inPlace := ["fmt.errorf"], recurses := true, loops := true, apart := false }
/-- NO THEOREM (fmt's text is open here; it may be false): for the released tool's asking of the row's closed facts alone. THE STATEMENT IS 'FnArrayMemberLastAppendedWinsToldSaid' (Qxb6626323aFmtCards.lean). -/
def FnArrayMemberLastAppendedWinsFormAsk : Prop := fnArrayMemberLastAppendedWinsRow.holds Tryf.pinned (OpenSpec.ofChange fnArrayMemberLastAppendedWinsSpec)

/-- ITS FALSE NEIGHBOUR: 'it returns false'. Refute it at one input. -/
def fnArrayMemberLastAppendedWinsWrong : ChangeSpec := { name := "fnArrayMemberLastAppendedWins", fn := fun _ => fun
  | [d1, d2, d3] => { results := [.lit (.bool false)], args := [d1, d2, d3] }
  | _ => none }
def FnArrayMemberLastAppendedWinsWrongFormAsk : Prop := fnArrayMemberLastAppendedWinsRow.holds Tryf.pinned (OpenSpec.ofChange fnArrayMemberLastAppendedWinsWrong)

/-- 'zzlaws_internal_jsonframe_b1.FnArrayMemberAgreesWithMember': WHATEVER THE INPUT: true; the input reads as it did. -/
def fnArrayMemberAgreesWithMemberSpec : ChangeSpec := { name := "fnArrayMemberAgreesWithMember", fn := fun _ => fun
  | [d1, d2] => { results := [.lit (.bool true)], args := [d1, d2] }
  | _ => none }
def fnArrayMemberAgreesWithMemberRow : OpenClaim := { program := "qxb6626323afmt", sum := "87df006e99663c5e8910f521dcb69e6edfdac0e22fdd2314ce5893b17fa19131", func := "example.com/manystrand/manystrand/zzlaws_internal_jsonframe_b1.FnArrayMemberAgreesWithMember", spec := "fnArrayMemberAgreesWithMember", stops := ["fmt.errorf"], inPlace := ["fmt.errorf"], recurses := true, loops := true, apart := false }
/-- NO THEOREM (fmt's text is open here; it may be false): for the released tool's asking of the row's closed facts alone. THE STATEMENT IS 'FnArrayMemberAgreesWithMemberToldSaid' (Qxb6626323aFmtCards.lean). -/
def FnArrayMemberAgreesWithMemberFormAsk : Prop := fnArrayMemberAgreesWithMemberRow.holds Tryf.pinned (OpenSpec.ofChange fnArrayMemberAgreesWithMemberSpec)

/-- ITS FALSE NEIGHBOUR: 'it returns false'. Refute it at one input. -/
def fnArrayMemberAgreesWithMemberWrong : ChangeSpec := { name := "fnArrayMemberAgreesWithMember", fn := fun _ => fun
  | [d1, d2] => { results := [.lit (.bool false)], args := [d1, d2] }
  | _ => none }
def FnArrayMemberAgreesWithMemberWrongFormAsk : Prop := fnArrayMemberAgreesWithMemberRow.holds Tryf.pinned (OpenSpec.ofChange fnArrayMemberAgreesWithMemberWrong)

end Rows
end Go.Proofs.Qxb6626323aFmt

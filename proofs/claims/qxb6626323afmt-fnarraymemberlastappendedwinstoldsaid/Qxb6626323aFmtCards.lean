/-
  DERIVED. GIVEN WITH THE SEED: THE CARDS: each row of Qxb6626323aFmtRows.lean that lists a variable, with what it lists TIED to the program's text (the seventh form; the later family's looks); each row that meets fmt, with fmt's text TOLD by the authors' own Lean function (tested against real Go, not proved from fmt's source: count such statements apart). THE CARD IS WHAT COUNTS. Prove the row's statement (the work); the ties are given (Qxb6626323aFmtTie.lean); close each card by the builder's one call (the guide's Derived/Test/ToyasCard.lean, 'card_holds'). Laid BY PROGRAM, IN A SANDBOX (cutbox-door.mjs). By AI agents, Wed Nov 11 2026. No macro, syntax, notation, axiom, sorry.
-/
import Derived.Test.Qxb6626323aFmtRows
import GoSem.ClaimSeven
namespace Go.Proofs.Qxb6626323aFmt
namespace Rows

/-- THE TOLD CARD OF 'zzlaws_internal_jsonframe_b1.FnArrayMemberLastAppendedWins'. -/
def fnArrayMemberLastAppendedWinsCard : Claim7 := { stood := { row := fnArrayMemberLastAppendedWinsRow, standIns := [], harness := (true, "2bfb1b2d80f0ab37866d3ff2b724630752c549d329587db5871afc2fe2a4f16b"), looks := false }, told := true, goes := false }
def FnArrayMemberLastAppendedWinsToldSaid : Prop := Claim7.holds Tryf.pinned (.plain (OpenSpec.ofChange fnArrayMemberLastAppendedWinsSpec)) fnArrayMemberLastAppendedWinsCard
/-- ITS FALSE NEIGHBOUR. Refute it at one input. -/
def FnArrayMemberLastAppendedWinsToldWrongFalsely : Prop := Claim7.holds Tryf.pinned (.plain (OpenSpec.ofChange fnArrayMemberLastAppendedWinsWrong)) fnArrayMemberLastAppendedWinsCard

/-- THE TOLD CARD OF 'zzlaws_internal_jsonframe_b1.FnArrayMemberAgreesWithMember'. -/
def fnArrayMemberAgreesWithMemberCard : Claim7 := { stood := { row := fnArrayMemberAgreesWithMemberRow, standIns := [], harness := (true, "2bfb1b2d80f0ab37866d3ff2b724630752c549d329587db5871afc2fe2a4f16b"), looks := false }, told := true, goes := false }
def FnArrayMemberAgreesWithMemberToldSaid : Prop := Claim7.holds Tryf.pinned (.plain (OpenSpec.ofChange fnArrayMemberAgreesWithMemberSpec)) fnArrayMemberAgreesWithMemberCard
/-- ITS FALSE NEIGHBOUR. Refute it at one input. -/
def FnArrayMemberAgreesWithMemberToldWrongFalsely : Prop := Claim7.holds Tryf.pinned (.plain (OpenSpec.ofChange fnArrayMemberAgreesWithMemberWrong)) fnArrayMemberAgreesWithMemberCard
end Rows
end Go.Proofs.Qxb6626323aFmt

/-
  DERIVED. GIVEN WITH THE SEED: THE CARDS: each row of Qxb6614376aFmtRows.lean that lists a variable, with what it lists TIED to the program's text (the seventh form; the later family's looks); each row that meets fmt, with fmt's text TOLD by the authors' own Lean function (tested against real Go, not proved from fmt's source: count such statements apart). THE CARD IS WHAT COUNTS. Prove the row's statement (the work); the ties are given (Qxb6614376aFmtTie.lean); close each card by the builder's one call (the guide's Derived/Test/ToyasCard.lean, 'card_holds'). Laid BY PROGRAM, IN A SANDBOX (cutbox-door.mjs). By AI agents, Wed Nov 11 2026. No macro, syntax, notation, axiom, sorry.
-/
import Derived.Test.Qxb6614376aFmtRows
import GoSem.ClaimSeven
namespace Go.Proofs.Qxb6614376aFmt
namespace Rows

/-- THE TOLD CARD OF 'zzlaws_root_b1.FnAudienceClaimReadsStringsExactly'. -/
def fnAudienceClaimReadsStringsExactlyCard : Claim7 := { stood := { row := fnAudienceClaimReadsStringsExactlyRow, standIns := [], harness := (true, "8056a9ecee019c98ce0c0ec241435dbc52d7963db63789605f19be1071545aff"), looks := true }, told := true, goes := false }
def FnAudienceClaimReadsStringsExactlyToldSaid : Prop := Claim7.holds Tryf.pinned (.plain (OpenSpec.ofChange fnAudienceClaimReadsStringsExactlySpec)) fnAudienceClaimReadsStringsExactlyCard
/-- ITS FALSE NEIGHBOUR. Refute it at one input. -/
def FnAudienceClaimReadsStringsExactlyToldWrongFalsely : Prop := Claim7.holds Tryf.pinned (.plain (OpenSpec.ofChange fnAudienceClaimReadsStringsExactlyWrong)) fnAudienceClaimReadsStringsExactlyCard

/-- THE TOLD CARD OF 'zzlaws_root_b1.FnAudienceClaimRefusesNonStrings'. -/
def fnAudienceClaimRefusesNonStringsCard : Claim7 := { stood := { row := fnAudienceClaimRefusesNonStringsRow, standIns := [], harness := (true, "8056a9ecee019c98ce0c0ec241435dbc52d7963db63789605f19be1071545aff"), looks := true }, told := true, goes := false }
def FnAudienceClaimRefusesNonStringsToldSaid : Prop := Claim7.holds Tryf.pinned (.plain (OpenSpec.ofChange fnAudienceClaimRefusesNonStringsSpec)) fnAudienceClaimRefusesNonStringsCard
/-- ITS FALSE NEIGHBOUR. Refute it at one input. -/
def FnAudienceClaimRefusesNonStringsToldWrongFalsely : Prop := Claim7.holds Tryf.pinned (.plain (OpenSpec.ofChange fnAudienceClaimRefusesNonStringsWrong)) fnAudienceClaimRefusesNonStringsCard
end Rows
end Go.Proofs.Qxb6614376aFmt

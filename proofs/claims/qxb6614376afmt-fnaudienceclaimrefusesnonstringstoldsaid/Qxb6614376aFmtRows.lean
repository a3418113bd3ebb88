/-
  No cell of these rows narrows 'for every input' (looked for: loops, veiled, ifaces, maps, wideKeys, modest, calm, conditions, laid).
  DERIVED. THE GIVEN ROWS OF THIS SEAT. 2 by the template 'for every input the law returns true; each argument reads behind the call as it read before'; 0 by the template 'total and deterministic' (their statements: Qxb6614376aFmtTotals.lean).
  GIVEN WITH THE SEED: the statements are not yours to turn. If you find one false, say at which input.
  Laid BY PROGRAM, IN A SANDBOX (cutbox-rows.mjs): the forced cells as the released guide's own fill.sh prints them over the translation 688968651fac55fa… (all of the seat's roots in one cut). By AI agents, Wed Nov 11 2026. No macro, syntax, notation, axiom, sorry.
-/
import Derived.Test.Qxb6614376aFmtChecked
import GoSem.Claim
import GoSem.ClaimJoined
import GoSem.ClaimMapViews
import Derived.JoinedTies
import Derived.KernelRfl
namespace Go.Proofs.Qxb6614376aFmt
/- THE CELL 'sum', in the pinned program and in every row, IS THE sha256 OF THE DUMP (.gsa) THAT Qxb6614376aFmtProg.lean LOADS. Nothing in Lean hashes anything: it is a label: what it is worth is what the hold of that sum in a sandbox is worth. -/
noncomputable def Tryf.pinned : Pinned := { name := "qxb6614376afmt", sum := "688968651fac55fa86b2aa3467a0af0b943285c7d477f12af586a1dc7423586c", checked := Tryf.checked }
namespace Rows
def none {H : Type} : Left H := { results := [], args := [] }

/-- 'zzlaws_root_b1.FnAudienceClaimReadsStringsExactly': WHATEVER THE INPUT: true; the input reads as it did. -/
def fnAudienceClaimReadsStringsExactlySpec : ChangeSpec := { name := "fnAudienceClaimReadsStringsExactly", fn := fun _ => fun
  | [d1, d2] => { results := [.lit (.bool true)], args := [d1, d2] }
  | _ => none }
def fnAudienceClaimReadsStringsExactlyRow : OpenClaim := { program := "qxb6614376afmt", sum := "688968651fac55fa86b2aa3467a0af0b943285c7d477f12af586a1dc7423586c", func := "example.com/rekv/rekv/zzlaws_root_b1.FnAudienceClaimReadsStringsExactly", spec := "fnAudienceClaimReadsStringsExactly", stops := ["fmt.errorf"], inPlace := ["fmt.errorf"], apart := false }
/-- NO THEOREM (fmt's text is open here; it may be false): for the released tool's asking of the row's closed facts alone. THE STATEMENT IS 'FnAudienceClaimReadsStringsExactlyToldSaid' (Qxb6614376aFmtCards.lean). -/
def FnAudienceClaimReadsStringsExactlyFormAsk : Prop := fnAudienceClaimReadsStringsExactlyRow.holds Tryf.pinned (OpenSpec.ofChange fnAudienceClaimReadsStringsExactlySpec)

/-- ITS FALSE NEIGHBOUR: 'it returns false'. Refute it at one input. -/
def fnAudienceClaimReadsStringsExactlyWrong : ChangeSpec := { name := "fnAudienceClaimReadsStringsExactly", fn := fun _ => fun
  | [d1, d2] => { results := [.lit (.bool false)], args := [d1, d2] }
  | _ => none }
def FnAudienceClaimReadsStringsExactlyWrongFormAsk : Prop := fnAudienceClaimReadsStringsExactlyRow.holds Tryf.pinned (OpenSpec.ofChange fnAudienceClaimReadsStringsExactlyWrong)

/-- 'zzlaws_root_b1.FnAudienceClaimRefusesNonStrings': WHATEVER THE INPUT: true; the input reads as it did. -/
def fnAudienceClaimRefusesNonStringsSpec : ChangeSpec := { name := "fnAudienceClaimRefusesNonStrings", fn := fun _ => fun
  | [d1, d2, d3] => { results := [.lit (.bool true)], args := [d1, d2, d3] }
  | _ => none }
def fnAudienceClaimRefusesNonStringsRow : OpenClaim := { program := "qxb6614376afmt", sum := "688968651fac55fa86b2aa3467a0af0b943285c7d477f12af586a1dc7423586c", func := "example.com/rekv/rekv/zzlaws_root_b1.FnAudienceClaimRefusesNonStrings", spec := "fnAudienceClaimRefusesNonStrings", stops := ["fmt.errorf"], inPlace := ["fmt.errorf"], apart := false }
/-- NO THEOREM (fmt's text is open here; it may be false): for the released tool's asking of the row's closed facts alone. THE STATEMENT IS 'FnAudienceClaimRefusesNonStringsToldSaid' (Qxb6614376aFmtCards.lean). -/
def FnAudienceClaimRefusesNonStringsFormAsk : Prop := fnAudienceClaimRefusesNonStringsRow.holds Tryf.pinned (OpenSpec.ofChange fnAudienceClaimRefusesNonStringsSpec)

/-- ITS FALSE NEIGHBOUR: 'it returns false'. Refute it at one input. -/
def fnAudienceClaimRefusesNonStringsWrong : ChangeSpec := { name := "fnAudienceClaimRefusesNonStrings", fn := fun _ => fun
  | [d1, d2, d3] => { results := [.lit (.bool false)], args := [d1, d2, d3] }
  | _ => none }
def FnAudienceClaimRefusesNonStringsWrongFormAsk : Prop := fnAudienceClaimRefusesNonStringsRow.holds Tryf.pinned (OpenSpec.ofChange fnAudienceClaimRefusesNonStringsWrong)

end Rows
end Go.Proofs.Qxb6614376aFmt

/-
  No cell of these rows narrows 'for every input' (looked for: loops, veiled, ifaces, maps, wideKeys, modest, calm, conditions, laid).
  DERIVED. THE GIVEN ROWS OF THIS SEAT. 4 by the template 'for every input the law returns true; each argument reads behind the call as it read before'; 0 by the template 'total and deterministic' (their statements: Qxb6615060aTotals.lean).
  GIVEN WITH THE SEED: the statements are not yours to turn. If you find one false, say at which input.
  Laid BY PROGRAM, IN A SANDBOX (cutbox-rows.mjs): the forced cells as the released guide's own fill.sh prints them over the translation a7f853893ed49d52… (all of the seat's roots in one cut). By AI agents, Wed Nov 11 2026. No macro, syntax, notation, axiom, sorry.
-/
import Derived.Test.Qxb6615060aChecked
import GoSem.Claim
import GoSem.ClaimJoined
import GoSem.ClaimMapViews
import Derived.JoinedTies
import Derived.KernelRfl
namespace Go.Proofs.Qxb6615060a
/- THE CELL 'sum', in the pinned program and in every row, IS THE sha256 OF THE DUMP (.gsa) THAT Qxb6615060aProg.lean LOADS. Nothing in Lean hashes anything: it is a label: what it is worth is what the hold of that sum in a sandbox is worth. -/
noncomputable def Try.pinned : Pinned := { name := "qxb6615060a", sum := "a7f853893ed49d52f6877f02cbf397d25596c68f821b2bf35dd5ab399f3ed06f", checked := Try.checked }
namespace Rows
def none {H : Type} : Left H := { results := [], args := [] }

/-- 'zzlaws_internal_scheduler_b1.FnFunctionInjectiveAndAppends': WHATEVER THE INPUT: true; the input reads as it did. -/
def fnFunctionInjectiveAndAppendsSpec : ChangeSpec := { name := "fnFunctionInjectiveAndAppends", fn := fun _ => fun
  | [d1, d2] => { results := [.lit (.bool true)], args := [d1, d2] }
  | _ => none }
def fnFunctionInjectiveAndAppendsRow : OpenClaim := { program := "qxb6615060a", sum := "a7f853893ed49d52f6877f02cbf397d25596c68f821b2bf35dd5ab399f3ed06f", func := "example.com/portcullis/portcullis/zzlaws_internal_scheduler_b1.FnFunctionInjectiveAndAppends", spec := "fnFunctionInjectiveAndAppends", apart := false }
def FnFunctionInjectiveAndAppendsSaid : Prop := fnFunctionInjectiveAndAppendsRow.holds Try.pinned (OpenSpec.ofChange fnFunctionInjectiveAndAppendsSpec)

/-- ITS FALSE NEIGHBOUR: 'it returns false'. Refute it at one input. -/
def fnFunctionInjectiveAndAppendsWrong : ChangeSpec := { name := "fnFunctionInjectiveAndAppends", fn := fun _ => fun
  | [d1, d2] => { results := [.lit (.bool false)], args := [d1, d2] }
  | _ => none }
def FnFunctionInjectiveAndAppendsWrongFalsely : Prop := fnFunctionInjectiveAndAppendsRow.holds Try.pinned (OpenSpec.ofChange fnFunctionInjectiveAndAppendsWrong)

/-- 'zzlaws_internal_scheduler_b1.FnFunctionReadsJobAloneAndGivesItBack': WHATEVER THE INPUT: true; the input reads as it did. -/
def fnFunctionReadsJobAloneAndGivesItBackSpec : ChangeSpec := { name := "fnFunctionReadsJobAloneAndGivesItBack", fn := fun _ => fun
  | [d1, d2, d3, d4, d5, d6, d7, d8, d9] => { results := [.lit (.bool true)], args := [d1, d2, d3, d4, d5, d6, d7, d8, d9] }
  | _ => none }
def fnFunctionReadsJobAloneAndGivesItBackRow : OpenClaim := { program := "qxb6615060a", sum := "a7f853893ed49d52f6877f02cbf397d25596c68f821b2bf35dd5ab399f3ed06f", func := "example.com/portcullis/portcullis/zzlaws_internal_scheduler_b1.FnFunctionReadsJobAloneAndGivesItBack", spec := "fnFunctionReadsJobAloneAndGivesItBack", apart := false }
def FnFunctionReadsJobAloneAndGivesItBackSaid : Prop := fnFunctionReadsJobAloneAndGivesItBackRow.holds Try.pinned (OpenSpec.ofChange fnFunctionReadsJobAloneAndGivesItBackSpec)

/-- ITS FALSE NEIGHBOUR: 'it returns false'. Refute it at one input. -/
def fnFunctionReadsJobAloneAndGivesItBackWrong : ChangeSpec := { name := "fnFunctionReadsJobAloneAndGivesItBack", fn := fun _ => fun
  | [d1, d2, d3, d4, d5, d6, d7, d8, d9] => { results := [.lit (.bool false)], args := [d1, d2, d3, d4, d5, d6, d7, d8, d9] }
  | _ => none }
def FnFunctionReadsJobAloneAndGivesItBackWrongFalsely : Prop := fnFunctionReadsJobAloneAndGivesItBackRow.holds Try.pinned (OpenSpec.ofChange fnFunctionReadsJobAloneAndGivesItBackWrong)

/-- 'zzlaws_internal_scheduler_b1.FnBuiltOnExactlyOneBase': WHATEVER THE INPUT: true; the input reads as it did. -/
def fnBuiltOnExactlyOneBaseSpec : ChangeSpec := { name := "fnBuiltOnExactlyOneBase", fn := fun _ => fun
  | [d1, d2, d3, d4] => { results := [.lit (.bool true)], args := [d1, d2, d3, d4] }
  | _ => none }
def fnBuiltOnExactlyOneBaseRow : OpenClaim := { program := "qxb6615060a", sum := "a7f853893ed49d52f6877f02cbf397d25596c68f821b2bf35dd5ab399f3ed06f", func := "example.com/portcullis/portcullis/zzlaws_internal_scheduler_b1.FnBuiltOnExactlyOneBase", spec := "fnBuiltOnExactlyOneBase", apart := false }
def FnBuiltOnExactlyOneBaseSaid : Prop := fnBuiltOnExactlyOneBaseRow.holds Try.pinned (OpenSpec.ofChange fnBuiltOnExactlyOneBaseSpec)

/-- ITS FALSE NEIGHBOUR: 'it returns false'. Refute it at one input. -/
def fnBuiltOnExactlyOneBaseWrong : ChangeSpec := { name := "fnBuiltOnExactlyOneBase", fn := fun _ => fun
  | [d1, d2, d3, d4] => { results := [.lit (.bool false)], args := [d1, d2, d3, d4] }
  | _ => none }
def FnBuiltOnExactlyOneBaseWrongFalsely : Prop := fnBuiltOnExactlyOneBaseRow.holds Try.pinned (OpenSpec.ofChange fnBuiltOnExactlyOneBaseWrong)

/-- 'zzlaws_internal_scheduler_b1.FnBuiltOnIdentityStatelessAndTips': WHATEVER THE INPUT: true; the input reads as it did. -/
def fnBuiltOnIdentityStatelessAndTipsSpec : ChangeSpec := { name := "fnBuiltOnIdentityStatelessAndTips", fn := fun _ => fun
  | [d1, d2] => { results := [.lit (.bool true)], args := [d1, d2] }
  | _ => none }
def fnBuiltOnIdentityStatelessAndTipsRow : OpenClaim := { program := "qxb6615060a", sum := "a7f853893ed49d52f6877f02cbf397d25596c68f821b2bf35dd5ab399f3ed06f", func := "example.com/portcullis/portcullis/zzlaws_internal_scheduler_b1.FnBuiltOnIdentityStatelessAndTips", spec := "fnBuiltOnIdentityStatelessAndTips", apart := false }
def FnBuiltOnIdentityStatelessAndTipsSaid : Prop := fnBuiltOnIdentityStatelessAndTipsRow.holds Try.pinned (OpenSpec.ofChange fnBuiltOnIdentityStatelessAndTipsSpec)

/-- ITS FALSE NEIGHBOUR: 'it returns false'. Refute it at one input. -/
def fnBuiltOnIdentityStatelessAndTipsWrong : ChangeSpec := { name := "fnBuiltOnIdentityStatelessAndTips", fn := fun _ => fun
  | [d1, d2] => { results := [.lit (.bool false)], args := [d1, d2] }
  | _ => none }
def FnBuiltOnIdentityStatelessAndTipsWrongFalsely : Prop := fnBuiltOnIdentityStatelessAndTipsRow.holds Try.pinned (OpenSpec.ofChange fnBuiltOnIdentityStatelessAndTipsWrong)

end Rows
end Go.Proofs.Qxb6615060a

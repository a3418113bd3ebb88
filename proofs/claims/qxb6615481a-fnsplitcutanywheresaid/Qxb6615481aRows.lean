/-
  No cell of these rows narrows 'for every input' (looked for: loops, veiled, ifaces, maps, wideKeys, modest, calm, conditions, laid).
  DERIVED. THE GIVEN ROWS OF THIS SEAT. 2 by the template 'for every input the law returns true; each argument reads behind the call as it read before'; 0 by the template 'total and deterministic' (their statements: Qxb6615481aTotals.lean).
  GIVEN WITH THE SEED: the statements are not yours to turn. If you find one false, say at which input.
  Laid BY PROGRAM, IN A SANDBOX (cutbox-rows.mjs): the forced cells as the released guide's own fill.sh prints them over the translation a095ea1438396f4b… (all of the seat's roots in one cut). By AI agents, Wed Nov 11 2026. No macro, syntax, notation, axiom, sorry.
-/
import Derived.Test.Qxb6615481aChecked
import GoSem.Claim
import GoSem.ClaimJoined
import GoSem.ClaimMapViews
import Derived.JoinedTies
import Derived.KernelRfl
namespace Go.Proofs.Qxb6615481a
/- THE CELL 'sum', in the pinned program and in every row, IS THE sha256 OF THE DUMP (.gsa) THAT Qxb6615481aProg.lean LOADS. Nothing in Lean hashes anything: it is a label: what it is worth is what the hold of that sum in a sandbox is worth. -/
noncomputable def Try.pinned : Pinned := { name := "qxb6615481a", sum := "a095ea1438396f4b6e34dbc8313894cece4cf36699bb5f7b06dae9c25c56695f", checked := Try.checked }
namespace Rows
def none {H : Type} : Left H := { results := [], args := [] }

/-- 'zzlaws_dirs_b1.FnSplitIgnoresSlashRuns': WHATEVER THE INPUT: true; the input reads as it did. -/
def fnSplitIgnoresSlashRunsSpec : ChangeSpec := { name := "fnSplitIgnoresSlashRuns", fn := fun _ => fun
  | [d] => { results := [.lit (.bool true)], args := [d] }
  | _ => none }
def fnSplitIgnoresSlashRunsRow : OpenClaim := { program := "qxb6615481a", sum := "a095ea1438396f4b6e34dbc8313894cece4cf36699bb5f7b06dae9c25c56695f", func := "example.com/wappen/wappen/zzlaws_dirs_b1.FnSplitIgnoresSlashRuns", spec := "fnSplitIgnoresSlashRuns", unfollowed := true, recurses := true, apart := false }
def FnSplitIgnoresSlashRunsSaid : Prop := fnSplitIgnoresSlashRunsRow.holds Try.pinned (OpenSpec.ofChange fnSplitIgnoresSlashRunsSpec)

/-- ITS FALSE NEIGHBOUR: 'it returns false'. Refute it at one input. -/
def fnSplitIgnoresSlashRunsWrong : ChangeSpec := { name := "fnSplitIgnoresSlashRuns", fn := fun _ => fun
  | [d] => { results := [.lit (.bool false)], args := [d] }
  | _ => none }
def FnSplitIgnoresSlashRunsWrongFalsely : Prop := fnSplitIgnoresSlashRunsRow.holds Try.pinned (OpenSpec.ofChange fnSplitIgnoresSlashRunsWrong)

/-- 'zzlaws_dirs_b1.FnSplitCutAnywhere': WHATEVER THE INPUT: true; the input reads as it did. -/
def fnSplitCutAnywhereSpec : ChangeSpec := { name := "fnSplitCutAnywhere", fn := fun _ => fun
  | [d1, d2] => { results := [.lit (.bool true)], args := [d1, d2] }
  | _ => none }
def fnSplitCutAnywhereRow : OpenClaim := { program := "qxb6615481a", sum := "a095ea1438396f4b6e34dbc8313894cece4cf36699bb5f7b06dae9c25c56695f", func := "example.com/wappen/wappen/zzlaws_dirs_b1.FnSplitCutAnywhere", spec := "fnSplitCutAnywhere", unfollowed := true, recurses := true, apart := false }
def FnSplitCutAnywhereSaid : Prop := fnSplitCutAnywhereRow.holds Try.pinned (OpenSpec.ofChange fnSplitCutAnywhereSpec)

/-- ITS FALSE NEIGHBOUR: 'it returns false'. Refute it at one input. -/
def fnSplitCutAnywhereWrong : ChangeSpec := { name := "fnSplitCutAnywhere", fn := fun _ => fun
  | [d1, d2] => { results := [.lit (.bool false)], args := [d1, d2] }
  | _ => none }
def FnSplitCutAnywhereWrongFalsely : Prop := fnSplitCutAnywhereRow.holds Try.pinned (OpenSpec.ofChange fnSplitCutAnywhereWrong)

end Rows
end Go.Proofs.Qxb6615481a

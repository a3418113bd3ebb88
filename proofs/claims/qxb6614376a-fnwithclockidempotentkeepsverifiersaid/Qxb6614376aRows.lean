/-
  No cell of these rows narrows 'for every input' (looked for: loops, veiled, ifaces, maps, wideKeys, modest, calm, conditions, laid).
  DERIVED. THE GIVEN ROWS OF THIS SEAT. 5 by the template 'for every input the law returns true; each argument reads behind the call as it read before'; 0 by the template 'total and deterministic' (their statements: Qxb6614376aTotals.lean).
  GIVEN WITH THE SEED: the statements are not yours to turn. If you find one false, say at which input.
  Laid BY PROGRAM, IN A SANDBOX (cutbox-rows.mjs): the forced cells as the released guide's own fill.sh prints them over the translation a53de346b8dfa079… (all of the seat's roots in one cut). By AI agents, Wed Nov 11 2026. No macro, syntax, notation, axiom, sorry.
-/
import Derived.Test.Qxb6614376aChecked
import GoSem.Claim
import GoSem.ClaimJoined
import GoSem.ClaimMapViews
import Derived.JoinedTies
import Derived.KernelRfl
namespace Go.Proofs.Qxb6614376a
/- THE CELL 'sum', in the pinned program and in every row, IS THE sha256 OF THE DUMP (.gsa) THAT Qxb6614376aProg.lean LOADS. Nothing in Lean hashes anything: it is a label: what it is worth is what the hold of that sum in a sandbox is worth. -/
noncomputable def Try.pinned : Pinned := { name := "qxb6614376a", sum := "a53de346b8dfa07995f694ac0265f09a57df6d45515db25073bfeab75663f7fb", checked := Try.checked }
namespace Rows
def none {H : Type} : Left H := { results := [], args := [] }

/-- 'zzlaws_root_b1.FnWithClockIdempotentKeepsVerifier': WHATEVER THE INPUT: true; the input reads as it did. -/
def fnWithClockIdempotentKeepsVerifierSpec : ChangeSpec := { name := "fnWithClockIdempotentKeepsVerifier", fn := fun _ => fun
  | [d1, d2] => { results := [.lit (.bool true)], args := [d1, d2] }
  | _ => none }
def fnWithClockIdempotentKeepsVerifierRow : OpenClaim := { program := "qxb6614376a", sum := "a53de346b8dfa07995f694ac0265f09a57df6d45515db25073bfeab75663f7fb", func := "example.com/rekv/rekv/zzlaws_root_b1.FnWithClockIdempotentKeepsVerifier", spec := "fnWithClockIdempotentKeepsVerifier", unfollowed := true, recurses := true, plainKeys := false, apart := false }
def FnWithClockIdempotentKeepsVerifierSaid : Prop := fnWithClockIdempotentKeepsVerifierRow.holds Try.pinned (OpenSpec.ofChange fnWithClockIdempotentKeepsVerifierSpec)

/-- ITS FALSE NEIGHBOUR: 'it returns false'. Refute it at one input. -/
def fnWithClockIdempotentKeepsVerifierWrong : ChangeSpec := { name := "fnWithClockIdempotentKeepsVerifier", fn := fun _ => fun
  | [d1, d2] => { results := [.lit (.bool false)], args := [d1, d2] }
  | _ => none }
def FnWithClockIdempotentKeepsVerifierWrongFalsely : Prop := fnWithClockIdempotentKeepsVerifierRow.holds Try.pinned (OpenSpec.ofChange fnWithClockIdempotentKeepsVerifierWrong)

/-- 'zzlaws_root_b1.FnWithClockLastOptionWins': WHATEVER THE INPUT: true; the input reads as it did. -/
def fnWithClockLastOptionWinsSpec : ChangeSpec := { name := "fnWithClockLastOptionWins", fn := fun _ => fun
  | [d1, d2, d3] => { results := [.lit (.bool true)], args := [d1, d2, d3] }
  | _ => none }
def fnWithClockLastOptionWinsRow : OpenClaim := { program := "qxb6614376a", sum := "a53de346b8dfa07995f694ac0265f09a57df6d45515db25073bfeab75663f7fb", func := "example.com/rekv/rekv/zzlaws_root_b1.FnWithClockLastOptionWins", spec := "fnWithClockLastOptionWins", unfollowed := true, recurses := true, plainKeys := false, apart := false }
def FnWithClockLastOptionWinsSaid : Prop := fnWithClockLastOptionWinsRow.holds Try.pinned (OpenSpec.ofChange fnWithClockLastOptionWinsSpec)

/-- ITS FALSE NEIGHBOUR: 'it returns false'. Refute it at one input. -/
def fnWithClockLastOptionWinsWrong : ChangeSpec := { name := "fnWithClockLastOptionWins", fn := fun _ => fun
  | [d1, d2, d3] => { results := [.lit (.bool false)], args := [d1, d2, d3] }
  | _ => none }
def FnWithClockLastOptionWinsWrongFalsely : Prop := fnWithClockLastOptionWinsRow.holds Try.pinned (OpenSpec.ofChange fnWithClockLastOptionWinsWrong)

/-- 'zzlaws_root_b1.FnKeyCacheDueFirstFetchCappedLoadedIgnoresMinRefresh': WHATEVER THE INPUT: true; the input reads as it did. -/
def fnKeyCacheDueFirstFetchCappedLoadedIgnoresMinRefreshSpec : ChangeSpec := { name := "fnKeyCacheDueFirstFetchCappedLoadedIgnoresMinRefresh", fn := fun _ => fun
  | [d1, d2, d3, d4] => { results := [.lit (.bool true)], args := [d1, d2, d3, d4] }
  | _ => none }
def fnKeyCacheDueFirstFetchCappedLoadedIgnoresMinRefreshRow : OpenClaim := { program := "qxb6614376a", sum := "a53de346b8dfa07995f694ac0265f09a57df6d45515db25073bfeab75663f7fb", func := "example.com/rekv/rekv/zzlaws_root_b1.FnKeyCacheDueFirstFetchCappedLoadedIgnoresMinRefresh", spec := "fnKeyCacheDueFirstFetchCappedLoadedIgnoresMinRefresh", inPlace := ["sync/atomic.StorePointer", "(*internal/sync.Mutex).Lock", "internal/race.Disable", "sync/atomic.CompareAndSwapInt32", "internal/race.Enable", "internal/race.Acquire", "(*internal/sync.Mutex).lockSlow", "internal/sync.runtime_canSpin", "internal/sync.runtime_doSpin", "internal/sync.throw", "internal/sync.runtime_nanotime", "internal/sync.runtime_SemacquireMutex", "sync/atomic.AddInt32", "(*internal/sync.Mutex).Unlock", "internal/race.ReleaseMerge", "(*internal/sync.Mutex).unlockSlow", "internal/sync.fatal", "internal/sync.runtime_Semrelease", "sync/atomic.LoadPointer"], plainKeys := false, apart := false }
def FnKeyCacheDueFirstFetchCappedLoadedIgnoresMinRefreshSaid : Prop := fnKeyCacheDueFirstFetchCappedLoadedIgnoresMinRefreshRow.holds Try.pinned (OpenSpec.ofChange fnKeyCacheDueFirstFetchCappedLoadedIgnoresMinRefreshSpec)

/-- ITS FALSE NEIGHBOUR: 'it returns false'. Refute it at one input. -/
def fnKeyCacheDueFirstFetchCappedLoadedIgnoresMinRefreshWrong : ChangeSpec := { name := "fnKeyCacheDueFirstFetchCappedLoadedIgnoresMinRefresh", fn := fun _ => fun
  | [d1, d2, d3, d4] => { results := [.lit (.bool false)], args := [d1, d2, d3, d4] }
  | _ => none }
def FnKeyCacheDueFirstFetchCappedLoadedIgnoresMinRefreshWrongFalsely : Prop := fnKeyCacheDueFirstFetchCappedLoadedIgnoresMinRefreshRow.holds Try.pinned (OpenSpec.ofChange fnKeyCacheDueFirstFetchCappedLoadedIgnoresMinRefreshWrong)

/-- 'zzlaws_root_b1.FnVerdictForgetRemovesExactlyThatDigest': WHATEVER THE INPUT: true; the input reads as it did. -/
def fnVerdictForgetRemovesExactlyThatDigestSpec : ChangeSpec := { name := "fnVerdictForgetRemovesExactlyThatDigest", fn := fun _ => fun
  | [d1, d2] => { results := [.lit (.bool true)], args := [d1, d2] }
  | _ => none }
def fnVerdictForgetRemovesExactlyThatDigestRow : OpenClaim := { program := "qxb6614376a", sum := "a53de346b8dfa07995f694ac0265f09a57df6d45515db25073bfeab75663f7fb", func := "example.com/rekv/rekv/zzlaws_root_b1.FnVerdictForgetRemovesExactlyThatDigest", spec := "fnVerdictForgetRemovesExactlyThatDigest", inPlace := ["(*internal/sync.Mutex).Lock", "internal/race.Disable", "sync/atomic.CompareAndSwapInt32", "internal/race.Enable", "internal/race.Acquire", "(*internal/sync.Mutex).lockSlow", "internal/sync.runtime_canSpin", "internal/sync.runtime_doSpin", "internal/sync.throw", "internal/sync.runtime_nanotime", "internal/sync.runtime_SemacquireMutex", "sync/atomic.AddInt32", "(*internal/sync.Mutex).Unlock", "internal/race.ReleaseMerge", "(*internal/sync.Mutex).unlockSlow", "internal/sync.fatal", "internal/sync.runtime_Semrelease"], plainKeys := false, apart := false }
def FnVerdictForgetRemovesExactlyThatDigestSaid : Prop := fnVerdictForgetRemovesExactlyThatDigestRow.holds Try.pinned (OpenSpec.ofChange fnVerdictForgetRemovesExactlyThatDigestSpec)

/-- ITS FALSE NEIGHBOUR: 'it returns false'. Refute it at one input. -/
def fnVerdictForgetRemovesExactlyThatDigestWrong : ChangeSpec := { name := "fnVerdictForgetRemovesExactlyThatDigest", fn := fun _ => fun
  | [d1, d2] => { results := [.lit (.bool false)], args := [d1, d2] }
  | _ => none }
def FnVerdictForgetRemovesExactlyThatDigestWrongFalsely : Prop := fnVerdictForgetRemovesExactlyThatDigestRow.holds Try.pinned (OpenSpec.ofChange fnVerdictForgetRemovesExactlyThatDigestWrong)

/-- 'zzlaws_root_b1.FnVerdictForgetOrderFreeAndIdempotent': WHATEVER THE INPUT: true; the input reads as it did. -/
def fnVerdictForgetOrderFreeAndIdempotentSpec : ChangeSpec := { name := "fnVerdictForgetOrderFreeAndIdempotent", fn := fun _ => fun
  | [d1, d2, d3] => { results := [.lit (.bool true)], args := [d1, d2, d3] }
  | _ => none }
def fnVerdictForgetOrderFreeAndIdempotentRow : OpenClaim := { program := "qxb6614376a", sum := "a53de346b8dfa07995f694ac0265f09a57df6d45515db25073bfeab75663f7fb", func := "example.com/rekv/rekv/zzlaws_root_b1.FnVerdictForgetOrderFreeAndIdempotent", spec := "fnVerdictForgetOrderFreeAndIdempotent", inPlace := ["(*internal/sync.Mutex).Lock", "internal/race.Disable", "sync/atomic.CompareAndSwapInt32", "internal/race.Enable", "internal/race.Acquire", "(*internal/sync.Mutex).lockSlow", "internal/sync.runtime_canSpin", "internal/sync.runtime_doSpin", "internal/sync.throw", "internal/sync.runtime_nanotime", "internal/sync.runtime_SemacquireMutex", "sync/atomic.AddInt32", "(*internal/sync.Mutex).Unlock", "internal/race.ReleaseMerge", "(*internal/sync.Mutex).unlockSlow", "internal/sync.fatal", "internal/sync.runtime_Semrelease"], plainKeys := false, apart := false }
def FnVerdictForgetOrderFreeAndIdempotentSaid : Prop := fnVerdictForgetOrderFreeAndIdempotentRow.holds Try.pinned (OpenSpec.ofChange fnVerdictForgetOrderFreeAndIdempotentSpec)

/-- ITS FALSE NEIGHBOUR: 'it returns false'. Refute it at one input. -/
def fnVerdictForgetOrderFreeAndIdempotentWrong : ChangeSpec := { name := "fnVerdictForgetOrderFreeAndIdempotent", fn := fun _ => fun
  | [d1, d2, d3] => { results := [.lit (.bool false)], args := [d1, d2, d3] }
  | _ => none }
def FnVerdictForgetOrderFreeAndIdempotentWrongFalsely : Prop := fnVerdictForgetOrderFreeAndIdempotentRow.holds Try.pinned (OpenSpec.ofChange fnVerdictForgetOrderFreeAndIdempotentWrong)

end Rows
end Go.Proofs.Qxb6614376a

/-
  No cell of these rows narrows 'for every input' (looked for: loops, veiled, ifaces, maps, wideKeys, modest, calm, conditions, laid).
  DERIVED. THE GIVEN ROWS OF THIS SEAT. 3 by the template 'for every input the law returns true; each argument reads behind the call as it read before'; 0 by the template 'total and deterministic' (their statements: Qxb6612987aTotals.lean).
  GIVEN WITH THE SEED: the statements are not yours to turn. If you find one false, say at which input.
  Laid BY PROGRAM, IN A SANDBOX (cutbox-rows.mjs): the forced cells as the released guide's own fill.sh prints them over the translation dc4a97d2a37776e6… (all of the seat's roots in one cut). By AI agents, Wed Nov 11 2026. No macro, syntax, notation, axiom, sorry.
-/
import Derived.Test.Qxb6612987aChecked
import GoSem.Claim
import GoSem.ClaimJoined
import GoSem.ClaimMapViews
import Derived.JoinedTies
import Derived.KernelRfl
namespace Go.Proofs.Qxb6612987a
/- THE CELL 'sum', in the pinned program and in every row, IS THE sha256 OF THE DUMP (.gsa) THAT Qxb6612987aProg.lean LOADS. Nothing in Lean hashes anything: it is a label: what it is worth is what the hold of that sum in a sandbox is worth. -/
noncomputable def Try.pinned : Pinned := { name := "qxb6612987a", sum := "dc4a97d2a37776e60b17965bd76b557367dc88dcef74b79d44ed64d336d680f2", checked := Try.checked }
namespace Rows
def none {H : Type} : Left H := { results := [], args := [] }

/-- 'zzlaws_internal_proxy_b1.FnJoinFollowsOnlyAUsefulFlight': WHATEVER THE INPUT: true; the input reads as it did. -/
def fnJoinFollowsOnlyAUsefulFlightSpec : ChangeSpec := { name := "fnJoinFollowsOnlyAUsefulFlight", fn := fun _ => fun
  | [d1, d2, d3, d4, d5, d6] => { results := [.lit (.bool true)], args := [d1, d2, d3, d4, d5, d6] }
  | _ => none }
def fnJoinFollowsOnlyAUsefulFlightRow : OpenClaim := { program := "qxb6612987a", sum := "dc4a97d2a37776e60b17965bd76b557367dc88dcef74b79d44ed64d336d680f2", func := "example.com/cellarway/cellarway/zzlaws_internal_proxy_b1.FnJoinFollowsOnlyAUsefulFlight", spec := "fnJoinFollowsOnlyAUsefulFlight", inPlace := ["(*internal/sync.Mutex).Lock", "internal/race.Disable", "sync/atomic.CompareAndSwapInt32", "internal/race.Enable", "internal/race.Acquire", "(*internal/sync.Mutex).lockSlow", "internal/sync.runtime_canSpin", "internal/sync.runtime_doSpin", "internal/sync.throw", "internal/sync.runtime_nanotime", "internal/sync.runtime_SemacquireMutex", "sync/atomic.AddInt32", "(*internal/sync.Mutex).Unlock", "internal/race.ReleaseMerge", "(*internal/sync.Mutex).unlockSlow", "internal/sync.fatal", "internal/sync.runtime_Semrelease"], apart := false }
def FnJoinFollowsOnlyAUsefulFlightSaid : Prop := fnJoinFollowsOnlyAUsefulFlightRow.holds Try.pinned (OpenSpec.ofChange fnJoinFollowsOnlyAUsefulFlightSpec)

/-- ITS FALSE NEIGHBOUR: 'it returns false'. Refute it at one input. -/
def fnJoinFollowsOnlyAUsefulFlightWrong : ChangeSpec := { name := "fnJoinFollowsOnlyAUsefulFlight", fn := fun _ => fun
  | [d1, d2, d3, d4, d5, d6] => { results := [.lit (.bool false)], args := [d1, d2, d3, d4, d5, d6] }
  | _ => none }
def FnJoinFollowsOnlyAUsefulFlightWrongFalsely : Prop := fnJoinFollowsOnlyAUsefulFlightRow.holds Try.pinned (OpenSpec.ofChange fnJoinFollowsOnlyAUsefulFlightWrong)

/-- 'zzlaws_internal_proxy_b1.FnJoinScriptLeadsAtFirstOccurrence': WHATEVER THE INPUT: true; the input reads as it did. -/
def fnJoinScriptLeadsAtFirstOccurrenceSpec : ChangeSpec := { name := "fnJoinScriptLeadsAtFirstOccurrence", fn := fun _ => fun
  | [d] => { results := [.lit (.bool true)], args := [d] }
  | _ => none }
def fnJoinScriptLeadsAtFirstOccurrenceRow : OpenClaim := { program := "qxb6612987a", sum := "dc4a97d2a37776e60b17965bd76b557367dc88dcef74b79d44ed64d336d680f2", func := "example.com/cellarway/cellarway/zzlaws_internal_proxy_b1.FnJoinScriptLeadsAtFirstOccurrence", spec := "fnJoinScriptLeadsAtFirstOccurrence", inPlace := ["(*internal/sync.Mutex).Lock", "internal/race.Disable", "sync/atomic.CompareAndSwapInt32", "internal/race.Enable", "internal/race.Acquire", "(*internal/sync.Mutex).lockSlow", "internal/sync.runtime_canSpin", "internal/sync.runtime_doSpin", "internal/sync.throw", "internal/sync.runtime_nanotime", "internal/sync.runtime_SemacquireMutex", "sync/atomic.AddInt32", "(*internal/sync.Mutex).Unlock", "internal/race.ReleaseMerge", "(*internal/sync.Mutex).unlockSlow", "internal/sync.fatal", "internal/sync.runtime_Semrelease"], apart := false }
def FnJoinScriptLeadsAtFirstOccurrenceSaid : Prop := fnJoinScriptLeadsAtFirstOccurrenceRow.holds Try.pinned (OpenSpec.ofChange fnJoinScriptLeadsAtFirstOccurrenceSpec)

/-- ITS FALSE NEIGHBOUR: 'it returns false'. Refute it at one input. -/
def fnJoinScriptLeadsAtFirstOccurrenceWrong : ChangeSpec := { name := "fnJoinScriptLeadsAtFirstOccurrence", fn := fun _ => fun
  | [d] => { results := [.lit (.bool false)], args := [d] }
  | _ => none }
def FnJoinScriptLeadsAtFirstOccurrenceWrongFalsely : Prop := fnJoinScriptLeadsAtFirstOccurrenceRow.holds Try.pinned (OpenSpec.ofChange fnJoinScriptLeadsAtFirstOccurrenceWrong)

/-- 'zzlaws_internal_proxy_b1.FnNewFlightFreshHeldOnceUnlisted': WHATEVER THE INPUT: true; the input reads as it did. -/
def fnNewFlightFreshHeldOnceUnlistedSpec : ChangeSpec := { name := "fnNewFlightFreshHeldOnceUnlisted", fn := fun _ => fun
  | [d1, d2] => { results := [.lit (.bool true)], args := [d1, d2] }
  | _ => none }
def fnNewFlightFreshHeldOnceUnlistedRow : OpenClaim := { program := "qxb6612987a", sum := "dc4a97d2a37776e60b17965bd76b557367dc88dcef74b79d44ed64d336d680f2", func := "example.com/cellarway/cellarway/zzlaws_internal_proxy_b1.FnNewFlightFreshHeldOnceUnlisted", spec := "fnNewFlightFreshHeldOnceUnlisted", inPlace := ["(*internal/sync.Mutex).Lock", "internal/race.Disable", "sync/atomic.CompareAndSwapInt32", "internal/race.Enable", "internal/race.Acquire", "(*internal/sync.Mutex).lockSlow", "internal/sync.runtime_canSpin", "internal/sync.runtime_doSpin", "internal/sync.throw", "internal/sync.runtime_nanotime", "internal/sync.runtime_SemacquireMutex", "sync/atomic.AddInt32", "(*internal/sync.Mutex).Unlock", "internal/race.ReleaseMerge", "(*internal/sync.Mutex).unlockSlow", "internal/sync.fatal", "internal/sync.runtime_Semrelease"], apart := false }
def FnNewFlightFreshHeldOnceUnlistedSaid : Prop := fnNewFlightFreshHeldOnceUnlistedRow.holds Try.pinned (OpenSpec.ofChange fnNewFlightFreshHeldOnceUnlistedSpec)

/-- ITS FALSE NEIGHBOUR: 'it returns false'. Refute it at one input. -/
def fnNewFlightFreshHeldOnceUnlistedWrong : ChangeSpec := { name := "fnNewFlightFreshHeldOnceUnlisted", fn := fun _ => fun
  | [d1, d2] => { results := [.lit (.bool false)], args := [d1, d2] }
  | _ => none }
def FnNewFlightFreshHeldOnceUnlistedWrongFalsely : Prop := fnNewFlightFreshHeldOnceUnlistedRow.holds Try.pinned (OpenSpec.ofChange fnNewFlightFreshHeldOnceUnlistedWrong)

end Rows
end Go.Proofs.Qxb6612987a

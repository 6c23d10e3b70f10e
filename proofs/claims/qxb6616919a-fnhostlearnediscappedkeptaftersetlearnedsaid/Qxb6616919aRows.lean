/-
  No cell of these rows narrows 'for every input' (looked for: loops, veiled, ifaces, maps, wideKeys, modest, calm, conditions, laid).
  DERIVED. THE GIVEN ROWS OF THIS SEAT. 4 by the template 'for every input the law returns true; each argument reads behind the call as it read before'; 0 by the template 'total and deterministic' (their statements: Qxb6616919aTotals.lean).
  GIVEN WITH THE SEED: the statements are not yours to turn. If you find one false, say at which input.
  Laid BY PROGRAM, IN A SANDBOX (cutbox-rows.mjs): the forced cells as the released guide's own fill.sh prints them over the translation f12d163ebe2bc0f4… (all of the seat's roots in one cut). By AI agents, Wed Nov 11 2026. No macro, syntax, notation, axiom, sorry.
-/
import Derived.Test.Qxb6616919aChecked
import GoSem.Claim
import GoSem.ClaimJoined
import GoSem.ClaimMapViews
import Derived.JoinedTies
import Derived.KernelRfl
namespace Go.Proofs.Qxb6616919a
/- THE CELL 'sum', in the pinned program and in every row, IS THE sha256 OF THE DUMP (.gsa) THAT Qxb6616919aProg.lean LOADS. Nothing in Lean hashes anything: it is a label: what it is worth is what the hold of that sum in a sandbox is worth. -/
noncomputable def Try.pinned : Pinned := { name := "qxb6616919a", sum := "f12d163ebe2bc0f4e655e73971d354ad03fb68289dc1cedb40d48bb9fb3d6c09", checked := Try.checked }
namespace Rows
def none {H : Type} : Left H := { results := [], args := [] }

/-- 'zzlaws_internal_pace_b1.FnPacerSpacingHostsApartLastCrawlDelayWins': WHATEVER THE INPUT: true; the input reads as it did. -/
def fnPacerSpacingHostsApartLastCrawlDelayWinsSpec : ChangeSpec := { name := "fnPacerSpacingHostsApartLastCrawlDelayWins", fn := fun _ => fun
  | [d1, d2, d3, d4, d5, d6, d7, d8] => { results := [.lit (.bool true)], args := [d1, d2, d3, d4, d5, d6, d7, d8] }
  | _ => none }
def fnPacerSpacingHostsApartLastCrawlDelayWinsRow : OpenClaim := { program := "qxb6616919a", sum := "f12d163ebe2bc0f4e655e73971d354ad03fb68289dc1cedb40d48bb9fb3d6c09", func := "example.com/tidewatch/tidewatch/zzlaws_internal_pace_b1.FnPacerSpacingHostsApartLastCrawlDelayWins", spec := "fnPacerSpacingHostsApartLastCrawlDelayWins", inPlace := ["(*internal/sync.Mutex).Lock", "internal/race.Disable", "sync/atomic.CompareAndSwapInt32", "internal/race.Enable", "internal/race.Acquire", "(*internal/sync.Mutex).lockSlow", "internal/sync.runtime_canSpin", "internal/sync.runtime_doSpin", "internal/sync.throw", "internal/sync.runtime_nanotime", "internal/sync.runtime_SemacquireMutex", "sync/atomic.AddInt32", "(*internal/sync.Mutex).Unlock", "internal/race.ReleaseMerge", "(*internal/sync.Mutex).unlockSlow", "internal/sync.fatal", "internal/sync.runtime_Semrelease", "sync/atomic.StoreInt64", "sync/atomic.LoadInt64"], unfollowed := true, recurses := true, apart := false }
def FnPacerSpacingHostsApartLastCrawlDelayWinsSaid : Prop := fnPacerSpacingHostsApartLastCrawlDelayWinsRow.holds Try.pinned (OpenSpec.ofChange fnPacerSpacingHostsApartLastCrawlDelayWinsSpec)

/-- ITS FALSE NEIGHBOUR: 'it returns false'. Refute it at one input. -/
def fnPacerSpacingHostsApartLastCrawlDelayWinsWrong : ChangeSpec := { name := "fnPacerSpacingHostsApartLastCrawlDelayWins", fn := fun _ => fun
  | [d1, d2, d3, d4, d5, d6, d7, d8] => { results := [.lit (.bool false)], args := [d1, d2, d3, d4, d5, d6, d7, d8] }
  | _ => none }
def FnPacerSpacingHostsApartLastCrawlDelayWinsWrongFalsely : Prop := fnPacerSpacingHostsApartLastCrawlDelayWinsRow.holds Try.pinned (OpenSpec.ofChange fnPacerSpacingHostsApartLastCrawlDelayWinsWrong)

/-- 'zzlaws_internal_pace_b1.FnHostLearnedIsCappedKeptAfterSetLearned': WHATEVER THE INPUT: true; the input reads as it did. -/
def fnHostLearnedIsCappedKeptAfterSetLearnedSpec : ChangeSpec := { name := "fnHostLearnedIsCappedKeptAfterSetLearned", fn := fun _ => fun
  | [d1, d2, d3, d4, d5, d6, d7, d8] => { results := [.lit (.bool true)], args := [d1, d2, d3, d4, d5, d6, d7, d8] }
  | _ => none }
def fnHostLearnedIsCappedKeptAfterSetLearnedRow : OpenClaim := { program := "qxb6616919a", sum := "f12d163ebe2bc0f4e655e73971d354ad03fb68289dc1cedb40d48bb9fb3d6c09", func := "example.com/tidewatch/tidewatch/zzlaws_internal_pace_b1.FnHostLearnedIsCappedKeptAfterSetLearned", spec := "fnHostLearnedIsCappedKeptAfterSetLearned", inPlace := ["(*internal/sync.Mutex).Lock", "internal/race.Disable", "sync/atomic.CompareAndSwapInt32", "internal/race.Enable", "internal/race.Acquire", "(*internal/sync.Mutex).lockSlow", "internal/sync.runtime_canSpin", "internal/sync.runtime_doSpin", "internal/sync.throw", "internal/sync.runtime_nanotime", "internal/sync.runtime_SemacquireMutex", "sync/atomic.AddInt32", "(*internal/sync.Mutex).Unlock", "internal/race.ReleaseMerge", "(*internal/sync.Mutex).unlockSlow", "internal/sync.fatal", "internal/sync.runtime_Semrelease", "sync/atomic.StoreInt64"], unfollowed := true, recurses := true, apart := false }
def FnHostLearnedIsCappedKeptAfterSetLearnedSaid : Prop := fnHostLearnedIsCappedKeptAfterSetLearnedRow.holds Try.pinned (OpenSpec.ofChange fnHostLearnedIsCappedKeptAfterSetLearnedSpec)

/-- ITS FALSE NEIGHBOUR: 'it returns false'. Refute it at one input. -/
def fnHostLearnedIsCappedKeptAfterSetLearnedWrong : ChangeSpec := { name := "fnHostLearnedIsCappedKeptAfterSetLearned", fn := fun _ => fun
  | [d1, d2, d3, d4, d5, d6, d7, d8] => { results := [.lit (.bool false)], args := [d1, d2, d3, d4, d5, d6, d7, d8] }
  | _ => none }
def FnHostLearnedIsCappedKeptAfterSetLearnedWrongFalsely : Prop := fnHostLearnedIsCappedKeptAfterSetLearnedRow.holds Try.pinned (OpenSpec.ofChange fnHostLearnedIsCappedKeptAfterSetLearnedWrong)

/-- 'zzlaws_internal_pace_b1.FnHostSpacingAgreesWithPacerAndBoundsItsParts': WHATEVER THE INPUT: true; the input reads as it did. -/
def fnHostSpacingAgreesWithPacerAndBoundsItsPartsSpec : ChangeSpec := { name := "fnHostSpacingAgreesWithPacerAndBoundsItsParts", fn := fun _ => fun
  | [d1, d2, d3, d4, d5, d6] => { results := [.lit (.bool true)], args := [d1, d2, d3, d4, d5, d6] }
  | _ => none }
def fnHostSpacingAgreesWithPacerAndBoundsItsPartsRow : OpenClaim := { program := "qxb6616919a", sum := "f12d163ebe2bc0f4e655e73971d354ad03fb68289dc1cedb40d48bb9fb3d6c09", func := "example.com/tidewatch/tidewatch/zzlaws_internal_pace_b1.FnHostSpacingAgreesWithPacerAndBoundsItsParts", spec := "fnHostSpacingAgreesWithPacerAndBoundsItsParts", inPlace := ["(*internal/sync.Mutex).Lock", "internal/race.Disable", "sync/atomic.CompareAndSwapInt32", "internal/race.Enable", "internal/race.Acquire", "(*internal/sync.Mutex).lockSlow", "internal/sync.runtime_canSpin", "internal/sync.runtime_doSpin", "internal/sync.throw", "internal/sync.runtime_nanotime", "internal/sync.runtime_SemacquireMutex", "sync/atomic.AddInt32", "(*internal/sync.Mutex).Unlock", "internal/race.ReleaseMerge", "(*internal/sync.Mutex).unlockSlow", "internal/sync.fatal", "internal/sync.runtime_Semrelease", "sync/atomic.StoreInt64", "sync/atomic.LoadInt64"], unfollowed := true, recurses := true, apart := false }
def FnHostSpacingAgreesWithPacerAndBoundsItsPartsSaid : Prop := fnHostSpacingAgreesWithPacerAndBoundsItsPartsRow.holds Try.pinned (OpenSpec.ofChange fnHostSpacingAgreesWithPacerAndBoundsItsPartsSpec)

/-- ITS FALSE NEIGHBOUR: 'it returns false'. Refute it at one input. -/
def fnHostSpacingAgreesWithPacerAndBoundsItsPartsWrong : ChangeSpec := { name := "fnHostSpacingAgreesWithPacerAndBoundsItsParts", fn := fun _ => fun
  | [d1, d2, d3, d4, d5, d6] => { results := [.lit (.bool false)], args := [d1, d2, d3, d4, d5, d6] }
  | _ => none }
def FnHostSpacingAgreesWithPacerAndBoundsItsPartsWrongFalsely : Prop := fnHostSpacingAgreesWithPacerAndBoundsItsPartsRow.holds Try.pinned (OpenSpec.ofChange fnHostSpacingAgreesWithPacerAndBoundsItsPartsWrong)

/-- 'zzlaws_internal_pace_b1.FnHostSpacingCrawlDelayClearedRestores': WHATEVER THE INPUT: true; the input reads as it did. -/
def fnHostSpacingCrawlDelayClearedRestoresSpec : ChangeSpec := { name := "fnHostSpacingCrawlDelayClearedRestores", fn := fun _ => fun
  | [d1, d2, d3, d4, d5, d6] => { results := [.lit (.bool true)], args := [d1, d2, d3, d4, d5, d6] }
  | _ => none }
def fnHostSpacingCrawlDelayClearedRestoresRow : OpenClaim := { program := "qxb6616919a", sum := "f12d163ebe2bc0f4e655e73971d354ad03fb68289dc1cedb40d48bb9fb3d6c09", func := "example.com/tidewatch/tidewatch/zzlaws_internal_pace_b1.FnHostSpacingCrawlDelayClearedRestores", spec := "fnHostSpacingCrawlDelayClearedRestores", inPlace := ["(*internal/sync.Mutex).Lock", "internal/race.Disable", "sync/atomic.CompareAndSwapInt32", "internal/race.Enable", "internal/race.Acquire", "(*internal/sync.Mutex).lockSlow", "internal/sync.runtime_canSpin", "internal/sync.runtime_doSpin", "internal/sync.throw", "internal/sync.runtime_nanotime", "internal/sync.runtime_SemacquireMutex", "sync/atomic.AddInt32", "(*internal/sync.Mutex).Unlock", "internal/race.ReleaseMerge", "(*internal/sync.Mutex).unlockSlow", "internal/sync.fatal", "internal/sync.runtime_Semrelease", "sync/atomic.LoadInt64", "sync/atomic.StoreInt64"], unfollowed := true, recurses := true, apart := false }
def FnHostSpacingCrawlDelayClearedRestoresSaid : Prop := fnHostSpacingCrawlDelayClearedRestoresRow.holds Try.pinned (OpenSpec.ofChange fnHostSpacingCrawlDelayClearedRestoresSpec)

/-- ITS FALSE NEIGHBOUR: 'it returns false'. Refute it at one input. -/
def fnHostSpacingCrawlDelayClearedRestoresWrong : ChangeSpec := { name := "fnHostSpacingCrawlDelayClearedRestores", fn := fun _ => fun
  | [d1, d2, d3, d4, d5, d6] => { results := [.lit (.bool false)], args := [d1, d2, d3, d4, d5, d6] }
  | _ => none }
def FnHostSpacingCrawlDelayClearedRestoresWrongFalsely : Prop := fnHostSpacingCrawlDelayClearedRestoresRow.holds Try.pinned (OpenSpec.ofChange fnHostSpacingCrawlDelayClearedRestoresWrong)

end Rows
end Go.Proofs.Qxb6616919a

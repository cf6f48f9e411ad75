/-
  No cell of these rows narrows 'for every input' (looked for: loops, veiled, ifaces, maps, wideKeys, modest, calm, conditions, laid).
  DERIVED. THE GIVEN ROWS OF THIS SEAT. 4 by the template 'for every input the law returns true; each argument reads behind the call as it read before'; 0 by the template 'total and deterministic' (their statements: Qxb6614995aTotals.lean).
  GIVEN WITH THE SEED: the statements are not yours to turn. If you find one false, say at which input.
  Laid BY PROGRAM, IN A SANDBOX (cutbox-rows.mjs): the forced cells as the released guide's own fill.sh prints them over the translation bad27e560c6741e4… (all of the seat's roots in one cut). By AI agents, Wed Nov 11 2026. No macro, syntax, notation, axiom, sorry.
-/
import Derived.Test.Qxb6614995aChecked
import GoSem.Claim
import GoSem.ClaimJoined
import GoSem.ClaimMapViews
import Derived.JoinedTies
import Derived.KernelRfl
namespace Go.Proofs.Qxb6614995a
/- THE CELL 'sum', in the pinned program and in every row, IS THE sha256 OF THE DUMP (.gsa) THAT Qxb6614995aProg.lean LOADS. Nothing in Lean hashes anything: it is a label: what it is worth is what the hold of that sum in a sandbox is worth. -/
noncomputable def Try.pinned : Pinned := { name := "qxb6614995a", sum := "bad27e560c6741e4c532fea21a8f8887b0cee1b6462e8248f4a1fddbf04dd2c4", checked := Try.checked }
namespace Rows
def none {H : Type} : Left H := { results := [], args := [] }

/-- 'zzlaws_internal_pptp_b1.FnHoldCountsDistinctIds': WHATEVER THE INPUT: true; the input reads as it did. -/
def fnHoldCountsDistinctIdsSpec : ChangeSpec := { name := "fnHoldCountsDistinctIds", fn := fun _ => fun
  | [d1, d2, d3] => { results := [.lit (.bool true)], args := [d1, d2, d3] }
  | _ => none }
def fnHoldCountsDistinctIdsRow : OpenClaim := { program := "qxb6614995a", sum := "bad27e560c6741e4c532fea21a8f8887b0cee1b6462e8248f4a1fddbf04dd2c4", func := "example.com/culvert/culvert/zzlaws_internal_pptp_b1.FnHoldCountsDistinctIds", spec := "fnHoldCountsDistinctIds", inPlace := ["(*internal/sync.Mutex).Lock", "internal/race.Disable", "sync/atomic.CompareAndSwapInt32", "internal/race.Enable", "internal/race.Acquire", "(*internal/sync.Mutex).lockSlow", "internal/sync.runtime_canSpin", "internal/sync.runtime_doSpin", "internal/sync.throw", "internal/sync.runtime_nanotime", "internal/sync.runtime_SemacquireMutex", "sync/atomic.AddInt32", "(*internal/sync.Mutex).Unlock", "internal/race.ReleaseMerge", "(*internal/sync.Mutex).unlockSlow", "internal/sync.fatal", "internal/sync.runtime_Semrelease"], apart := false }
def FnHoldCountsDistinctIdsSaid : Prop := fnHoldCountsDistinctIdsRow.holds Try.pinned (OpenSpec.ofChange fnHoldCountsDistinctIdsSpec)

/-- ITS FALSE NEIGHBOUR: 'it returns false'. Refute it at one input. -/
def fnHoldCountsDistinctIdsWrong : ChangeSpec := { name := "fnHoldCountsDistinctIds", fn := fun _ => fun
  | [d1, d2, d3] => { results := [.lit (.bool false)], args := [d1, d2, d3] }
  | _ => none }
def FnHoldCountsDistinctIdsWrongFalsely : Prop := fnHoldCountsDistinctIdsRow.holds Try.pinned (OpenSpec.ofChange fnHoldCountsDistinctIdsWrong)

/-- 'zzlaws_internal_pptp_b1.FnStopForgetsWaitsKeepsRest': WHATEVER THE INPUT: true; the input reads as it did. -/
def fnStopForgetsWaitsKeepsRestSpec : ChangeSpec := { name := "fnStopForgetsWaitsKeepsRest", fn := fun _ => fun
  | [d1, d2, d3, d4, d5, d6, d7, d8, d9, d10, d11, d12] => { results := [.lit (.bool true)], args := [d1, d2, d3, d4, d5, d6, d7, d8, d9, d10, d11, d12] }
  | _ => none }
def fnStopForgetsWaitsKeepsRestRow : OpenClaim := { program := "qxb6614995a", sum := "bad27e560c6741e4c532fea21a8f8887b0cee1b6462e8248f4a1fddbf04dd2c4", func := "example.com/culvert/culvert/zzlaws_internal_pptp_b1.FnStopForgetsWaitsKeepsRest", spec := "fnStopForgetsWaitsKeepsRest", apart := false }
def FnStopForgetsWaitsKeepsRestSaid : Prop := fnStopForgetsWaitsKeepsRestRow.holds Try.pinned (OpenSpec.ofChange fnStopForgetsWaitsKeepsRestSpec)

/-- ITS FALSE NEIGHBOUR: 'it returns false'. Refute it at one input. -/
def fnStopForgetsWaitsKeepsRestWrong : ChangeSpec := { name := "fnStopForgetsWaitsKeepsRest", fn := fun _ => fun
  | [d1, d2, d3, d4, d5, d6, d7, d8, d9, d10, d11, d12] => { results := [.lit (.bool false)], args := [d1, d2, d3, d4, d5, d6, d7, d8, d9, d10, d11, d12] }
  | _ => none }
def FnStopForgetsWaitsKeepsRestWrongFalsely : Prop := fnStopForgetsWaitsKeepsRestRow.holds Try.pinned (OpenSpec.ofChange fnStopForgetsWaitsKeepsRestWrong)

/-- 'zzlaws_internal_pptp_b1.FnU16PairLaysJoinedWord': WHATEVER THE INPUT: true; the input reads as it did. -/
def fnU16PairLaysJoinedWordSpec : ChangeSpec := { name := "fnU16PairLaysJoinedWord", fn := fun _ => fun
  | [d1, d2, d3, d4] => { results := [.lit (.bool true)], args := [d1, d2, d3, d4] }
  | _ => none }
def fnU16PairLaysJoinedWordRow : OpenClaim := { program := "qxb6614995a", sum := "bad27e560c6741e4c532fea21a8f8887b0cee1b6462e8248f4a1fddbf04dd2c4", func := "example.com/culvert/culvert/zzlaws_internal_pptp_b1.FnU16PairLaysJoinedWord", spec := "fnU16PairLaysJoinedWord", named := ["encoding/binary.BigEndian"], apart := false }
def FnU16PairLaysJoinedWordSaid : Prop := fnU16PairLaysJoinedWordRow.holds Try.pinned (OpenSpec.ofChange fnU16PairLaysJoinedWordSpec)

/-- ITS FALSE NEIGHBOUR: 'it returns false'. Refute it at one input. -/
def fnU16PairLaysJoinedWordWrong : ChangeSpec := { name := "fnU16PairLaysJoinedWord", fn := fun _ => fun
  | [d1, d2, d3, d4] => { results := [.lit (.bool false)], args := [d1, d2, d3, d4] }
  | _ => none }
def FnU16PairLaysJoinedWordWrongFalsely : Prop := fnU16PairLaysJoinedWordRow.holds Try.pinned (OpenSpec.ofChange fnU16PairLaysJoinedWordWrong)

/-- 'zzlaws_internal_pptp_b1.FnU16ScriptWriterAndReaderInStep': WHATEVER THE INPUT: true; the input reads as it did. -/
def fnU16ScriptWriterAndReaderInStepSpec : ChangeSpec := { name := "fnU16ScriptWriterAndReaderInStep", fn := fun _ => fun
  | [d1, d2, d3] => { results := [.lit (.bool true)], args := [d1, d2, d3] }
  | _ => none }
def fnU16ScriptWriterAndReaderInStepRow : OpenClaim := { program := "qxb6614995a", sum := "bad27e560c6741e4c532fea21a8f8887b0cee1b6462e8248f4a1fddbf04dd2c4", func := "example.com/culvert/culvert/zzlaws_internal_pptp_b1.FnU16ScriptWriterAndReaderInStep", spec := "fnU16ScriptWriterAndReaderInStep", named := ["encoding/binary.BigEndian"], apart := false }
def FnU16ScriptWriterAndReaderInStepSaid : Prop := fnU16ScriptWriterAndReaderInStepRow.holds Try.pinned (OpenSpec.ofChange fnU16ScriptWriterAndReaderInStepSpec)

/-- ITS FALSE NEIGHBOUR: 'it returns false'. Refute it at one input. -/
def fnU16ScriptWriterAndReaderInStepWrong : ChangeSpec := { name := "fnU16ScriptWriterAndReaderInStep", fn := fun _ => fun
  | [d1, d2, d3] => { results := [.lit (.bool false)], args := [d1, d2, d3] }
  | _ => none }
def FnU16ScriptWriterAndReaderInStepWrongFalsely : Prop := fnU16ScriptWriterAndReaderInStepRow.holds Try.pinned (OpenSpec.ofChange fnU16ScriptWriterAndReaderInStepWrong)

end Rows
end Go.Proofs.Qxb6614995a

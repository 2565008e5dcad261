/-
  No cell of these rows narrows 'for every input' (looked for: loops, veiled, ifaces, maps, wideKeys, modest, calm, conditions, laid).
  DERIVED. THE GIVEN ROWS OF THIS SEAT. 2 by the template 'for every input the law returns true; each argument reads behind the call as it read before'; 0 by the template 'total and deterministic' (their statements: Qxb6612578aFmtTotals.lean).
  GIVEN WITH THE SEED: the statements are not yours to turn. If you find one false, say at which input.
  Laid BY PROGRAM, IN A SANDBOX (cutbox-rows.mjs): the forced cells as the released guide's own fill.sh prints them over the translation 86bd240c2b0efe9f… (all of the seat's roots in one cut). By AI agents, Wed Nov 11 2026. No macro, syntax, notation, axiom, sorry.
-/
import Derived.Test.Qxb6612578aFmtChecked
import GoSem.Claim
import GoSem.ClaimJoined
import GoSem.ClaimMapViews
import Derived.JoinedTies
import Derived.KernelRfl
namespace Go.Proofs.Qxb6612578aFmt
/- THE CELL 'sum', in the pinned program and in every row, IS THE sha256 OF THE DUMP (.gsa) THAT Qxb6612578aFmtProg.lean LOADS. Nothing in Lean hashes anything: it is a label: what it is worth is what the hold of that sum in a sandbox is worth. -/
noncomputable def Tryf.pinned : Pinned := { name := "qxb6612578afmt", sum := "86bd240c2b0efe9fc98d39498410387a235b740022212cd3fa3a16dfce888032", checked := Tryf.checked }
namespace Rows
def none {H : Type} : Left H := { results := [], args := [] }

/-- 'zzlaws_root_b1.FnTakeSplitsLikeOneTake': WHATEVER THE INPUT: true; the input reads as it did. -/
def fnTakeSplitsLikeOneTakeSpec : ChangeSpec := { name := "fnTakeSplitsLikeOneTake", fn := fun _ => fun
  | [d1, d2, d3, d4] => { results := [.lit (.bool true)], args := [d1, d2, d3, d4] }
  | _ => none }
def fnTakeSplitsLikeOneTakeRow : OpenClaim := { program := "qxb6612578afmt", sum := "86bd240c2b0efe9fc98d39498410387a235b740022212cd3fa3a16dfce888032", func := "example.com/inflight/inflight/zzlaws_root_b1.FnTakeSplitsLikeOneTake", spec := "fnTakeSplitsLikeOneTake", stops := ["fmt.Sprintf"], inPlace := ["fmt.Sprintf", "(*internal/sync.Mutex).Lock", "internal/race.Disable", "sync/atomic.CompareAndSwapInt32", "internal/race.Enable", "internal/race.Acquire", "(*internal/sync.Mutex).lockSlow", "internal/sync.runtime_canSpin", "internal/sync.runtime_doSpin", "internal/sync.throw", "internal/sync.runtime_nanotime", "internal/sync.runtime_SemacquireMutex", "sync/atomic.AddInt32", "(*internal/sync.Mutex).Unlock", "internal/race.ReleaseMerge", "(*internal/sync.Mutex).unlockSlow", "internal/sync.fatal", "internal/sync.runtime_Semrelease"], apart := false }
/-- NO THEOREM (fmt's text is open here; it may be false): for the released tool's asking of the row's closed facts alone. THE STATEMENT IS 'FnTakeSplitsLikeOneTakeToldSaid' (Qxb6612578aFmtCards.lean). -/
def FnTakeSplitsLikeOneTakeFormAsk : Prop := fnTakeSplitsLikeOneTakeRow.holds Tryf.pinned (OpenSpec.ofChange fnTakeSplitsLikeOneTakeSpec)

/-- ITS FALSE NEIGHBOUR: 'it returns false'. Refute it at one input. -/
def fnTakeSplitsLikeOneTakeWrong : ChangeSpec := { name := "fnTakeSplitsLikeOneTake", fn := fun _ => fun
  | [d1, d2, d3, d4] => { results := [.lit (.bool false)], args := [d1, d2, d3, d4] }
  | _ => none }
def FnTakeSplitsLikeOneTakeWrongFormAsk : Prop := fnTakeSplitsLikeOneTakeRow.holds Tryf.pinned (OpenSpec.ofChange fnTakeSplitsLikeOneTakeWrong)

/-- 'zzlaws_root_b1.FnTakeUndoneByRelease': WHATEVER THE INPUT: true; the input reads as it did. -/
def fnTakeUndoneByReleaseSpec : ChangeSpec := { name := "fnTakeUndoneByRelease", fn := fun _ => fun
  | [d1, d2, d3] => { results := [.lit (.bool true)], args := [d1, d2, d3] }
  | _ => none }
def fnTakeUndoneByReleaseRow : OpenClaim := { program := "qxb6612578afmt", sum := "86bd240c2b0efe9fc98d39498410387a235b740022212cd3fa3a16dfce888032", func := "example.com/inflight/inflight/zzlaws_root_b1.FnTakeUndoneByRelease", spec := "fnTakeUndoneByRelease", stops := ["fmt.Sprintf"], inPlace := ["fmt.Sprintf", "(*internal/sync.Mutex).Lock", "internal/race.Disable", "sync/atomic.CompareAndSwapInt32", "internal/race.Enable", "internal/race.Acquire", "(*internal/sync.Mutex).lockSlow", "internal/sync.runtime_canSpin", "internal/sync.runtime_doSpin", "internal/sync.throw", "internal/sync.runtime_nanotime", "internal/sync.runtime_SemacquireMutex", "sync/atomic.AddInt32", "(*internal/sync.Mutex).Unlock", "internal/race.ReleaseMerge", "(*internal/sync.Mutex).unlockSlow", "internal/sync.fatal", "internal/sync.runtime_Semrelease"], unfollowed := true, recurses := true, apart := false }
/-- NO THEOREM (fmt's text is open here; it may be false): for the released tool's asking of the row's closed facts alone. THE STATEMENT IS 'FnTakeUndoneByReleaseToldSaid' (Qxb6612578aFmtCards.lean). -/
def FnTakeUndoneByReleaseFormAsk : Prop := fnTakeUndoneByReleaseRow.holds Tryf.pinned (OpenSpec.ofChange fnTakeUndoneByReleaseSpec)

/-- ITS FALSE NEIGHBOUR: 'it returns false'. Refute it at one input. -/
def fnTakeUndoneByReleaseWrong : ChangeSpec := { name := "fnTakeUndoneByRelease", fn := fun _ => fun
  | [d1, d2, d3] => { results := [.lit (.bool false)], args := [d1, d2, d3] }
  | _ => none }
def FnTakeUndoneByReleaseWrongFormAsk : Prop := fnTakeUndoneByReleaseRow.holds Tryf.pinned (OpenSpec.ofChange fnTakeUndoneByReleaseWrong)

end Rows
end Go.Proofs.Qxb6612578aFmt

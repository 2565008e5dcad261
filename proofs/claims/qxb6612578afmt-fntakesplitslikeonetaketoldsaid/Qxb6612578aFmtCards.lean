/-
  DERIVED. GIVEN WITH THE SEED: THE CARDS: each row of Qxb6612578aFmtRows.lean that lists a variable, with what it lists TIED to the program's text (the seventh form; the later family's looks); each row that meets fmt, with fmt's text TOLD by the authors' own Lean function (tested against real Go, not proved from fmt's source: count such statements apart). THE CARD IS WHAT COUNTS. Prove the row's statement (the work); the ties are given (Qxb6612578aFmtTie.lean); close each card by the builder's one call (the guide's Derived/Test/ToyasCard.lean, 'card_holds'). Laid BY PROGRAM, IN A SANDBOX (cutbox-door.mjs). By AI agents, Wed Nov 11 2026. No macro, syntax, notation, axiom, sorry.
-/
import Derived.Test.Qxb6612578aFmtRows
import GoSem.ClaimSeven
namespace Go.Proofs.Qxb6612578aFmt
namespace Rows

/-- THE TOLD CARD OF 'zzlaws_root_b1.FnTakeSplitsLikeOneTake'. -/
def fnTakeSplitsLikeOneTakeCard : Claim7 := { stood := { row := fnTakeSplitsLikeOneTakeRow, standIns := [], harness := (true, "8577ea2066a146fb5104f415fe458b0a5e9df5ecf1296a89ba8cdef6d1ef6f0b"), looks := false }, told := true, goes := false }
def FnTakeSplitsLikeOneTakeToldSaid : Prop := Claim7.holds Tryf.pinned (.plain (OpenSpec.ofChange fnTakeSplitsLikeOneTakeSpec)) fnTakeSplitsLikeOneTakeCard
/-- ITS FALSE NEIGHBOUR. Refute it at one input. -/
def FnTakeSplitsLikeOneTakeToldWrongFalsely : Prop := Claim7.holds Tryf.pinned (.plain (OpenSpec.ofChange fnTakeSplitsLikeOneTakeWrong)) fnTakeSplitsLikeOneTakeCard

/-- THE TOLD CARD OF 'zzlaws_root_b1.FnTakeUndoneByRelease'. -/
def fnTakeUndoneByReleaseCard : Claim7 := { stood := { row := fnTakeUndoneByReleaseRow, standIns := [], harness := (true, "8577ea2066a146fb5104f415fe458b0a5e9df5ecf1296a89ba8cdef6d1ef6f0b"), looks := false }, told := true, goes := false }
def FnTakeUndoneByReleaseToldSaid : Prop := Claim7.holds Tryf.pinned (.plain (OpenSpec.ofChange fnTakeUndoneByReleaseSpec)) fnTakeUndoneByReleaseCard
/-- ITS FALSE NEIGHBOUR. Refute it at one input. -/
def FnTakeUndoneByReleaseToldWrongFalsely : Prop := Claim7.holds Tryf.pinned (.plain (OpenSpec.ofChange fnTakeUndoneByReleaseWrong)) fnTakeUndoneByReleaseCard
end Rows
end Go.Proofs.Qxb6612578aFmt

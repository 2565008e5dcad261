/-
  No cell of these rows narrows 'for every input' (looked for: loops, veiled, ifaces, maps, wideKeys, modest, calm, conditions, laid).
  DERIVED. THE GIVEN ROWS OF THIS SEAT. 2 by the template 'for every input the law returns true; each argument reads behind the call as it read before'; 0 by the template 'total and deterministic' (their statements: Qxb6612310aTotals.lean).
  GIVEN WITH THE SEED: the statements are not yours to turn. If you find one false, say at which input.
  Laid BY PROGRAM, IN A SANDBOX (cutbox-rows.mjs): the forced cells as the released guide's own fill.sh prints them over the translation 55f5ff3eafa810ce… (all of the seat's roots in one cut). By AI agents, Wed Nov 11 2026. No macro, syntax, notation, axiom, sorry.
-/
import Derived.Test.Qxb6612310aChecked
import GoSem.Claim
import GoSem.ClaimJoined
import GoSem.ClaimMapViews
import Derived.JoinedTies
import Derived.KernelRfl
namespace Go.Proofs.Qxb6612310a
/- THE CELL 'sum', in the pinned program and in every row, IS THE sha256 OF THE DUMP (.gsa) THAT Qxb6612310aProg.lean LOADS. Nothing in Lean hashes anything: it is a label: what it is worth is what the hold of that sum in a sandbox is worth. -/
noncomputable def Try.pinned : Pinned := { name := "qxb6612310a", sum := "55f5ff3eafa810ce646130201993998361f5312a64286bc49c293a9e36c7d478", checked := Try.checked }
namespace Rows
def none {H : Type} : Left H := { results := [], args := [] }

/-- 'zzlaws_internal_scan_b1.FnAddGroupsMatchesByTypeAndSecret': WHATEVER THE INPUT: true; the input reads as it did. -/
def fnAddGroupsMatchesByTypeAndSecretSpec : ChangeSpec := { name := "fnAddGroupsMatchesByTypeAndSecret", fn := fun _ => fun
  | [d1, d2, d3, d4, d5, d6] => { results := [.lit (.bool true)], args := [d1, d2, d3, d4, d5, d6] }
  | _ => none }
def fnAddGroupsMatchesByTypeAndSecretRow : OpenClaim := { program := "qxb6612310a", sum := "55f5ff3eafa810ce646130201993998361f5312a64286bc49c293a9e36c7d478", func := "example.com/leek/leek/zzlaws_internal_scan_b1.FnAddGroupsMatchesByTypeAndSecret", spec := "fnAddGroupsMatchesByTypeAndSecret", plainKeys := false, apart := false }
def FnAddGroupsMatchesByTypeAndSecretSaid : Prop := fnAddGroupsMatchesByTypeAndSecretRow.holds Try.pinned (OpenSpec.ofChange fnAddGroupsMatchesByTypeAndSecretSpec)

/-- ITS FALSE NEIGHBOUR: 'it returns false'. Refute it at one input. -/
def fnAddGroupsMatchesByTypeAndSecretWrong : ChangeSpec := { name := "fnAddGroupsMatchesByTypeAndSecret", fn := fun _ => fun
  | [d1, d2, d3, d4, d5, d6] => { results := [.lit (.bool false)], args := [d1, d2, d3, d4, d5, d6] }
  | _ => none }
def FnAddGroupsMatchesByTypeAndSecretWrongFalsely : Prop := fnAddGroupsMatchesByTypeAndSecretRow.holds Try.pinned (OpenSpec.ofChange fnAddGroupsMatchesByTypeAndSecretWrong)

/-- 'zzlaws_internal_scan_b1.FnAddSameMatchesTwiceLocatesBoth': WHATEVER THE INPUT: true; the input reads as it did. -/
def fnAddSameMatchesTwiceLocatesBothSpec : ChangeSpec := { name := "fnAddSameMatchesTwiceLocatesBoth", fn := fun _ => fun
  | [d1, d2, d3, d4, d5, d6, d7, d8, d9, d10] => { results := [.lit (.bool true)], args := [d1, d2, d3, d4, d5, d6, d7, d8, d9, d10] }
  | _ => none }
def fnAddSameMatchesTwiceLocatesBothRow : OpenClaim := { program := "qxb6612310a", sum := "55f5ff3eafa810ce646130201993998361f5312a64286bc49c293a9e36c7d478", func := "example.com/leek/leek/zzlaws_internal_scan_b1.FnAddSameMatchesTwiceLocatesBoth", spec := "fnAddSameMatchesTwiceLocatesBoth", plainKeys := false, apart := false }
def FnAddSameMatchesTwiceLocatesBothSaid : Prop := fnAddSameMatchesTwiceLocatesBothRow.holds Try.pinned (OpenSpec.ofChange fnAddSameMatchesTwiceLocatesBothSpec)

/-- ITS FALSE NEIGHBOUR: 'it returns false'. Refute it at one input. -/
def fnAddSameMatchesTwiceLocatesBothWrong : ChangeSpec := { name := "fnAddSameMatchesTwiceLocatesBoth", fn := fun _ => fun
  | [d1, d2, d3, d4, d5, d6, d7, d8, d9, d10] => { results := [.lit (.bool false)], args := [d1, d2, d3, d4, d5, d6, d7, d8, d9, d10] }
  | _ => none }
def FnAddSameMatchesTwiceLocatesBothWrongFalsely : Prop := fnAddSameMatchesTwiceLocatesBothRow.holds Try.pinned (OpenSpec.ofChange fnAddSameMatchesTwiceLocatesBothWrong)

end Rows
end Go.Proofs.Qxb6612310a

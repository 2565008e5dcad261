/-
  No cell of these rows narrows 'for every input' (looked for: loops, veiled, ifaces, maps, wideKeys, modest, calm, conditions, laid).
  DERIVED. THE GIVEN ROWS OF THIS SEAT. 4 by the template 'for every input the law returns true; each argument reads behind the call as it read before'; 0 by the template 'total and deterministic' (their statements: Qxb6612374aTotals.lean).
  GIVEN WITH THE SEED: the statements are not yours to turn. If you find one false, say at which input.
  Laid BY PROGRAM, IN A SANDBOX (cutbox-rows.mjs): the forced cells as the released guide's own fill.sh prints them over the translation d49910d9dd87b5c1… (all of the seat's roots in one cut). By AI agents, Wed Nov 11 2026. No macro, syntax, notation, axiom, sorry.
-/
import Derived.Test.Qxb6612374aChecked
import GoSem.Claim
import GoSem.ClaimJoined
import GoSem.ClaimMapViews
import Derived.JoinedTies
import Derived.KernelRfl
namespace Go.Proofs.Qxb6612374a
/- THE CELL 'sum', in the pinned program and in every row, IS THE sha256 OF THE DUMP (.gsa) THAT Qxb6612374aProg.lean LOADS. Nothing in Lean hashes anything: it is a label: what it is worth is what the hold of that sum in a sandbox is worth. -/
noncomputable def Try.pinned : Pinned := { name := "qxb6612374a", sum := "d49910d9dd87b5c16d1245500b3d998a2f638f1eeec2dad085cde8e2021177bd", checked := Try.checked }
namespace Rows
def none {H : Type} : Left H := { results := [], args := [] }

/-- 'zzlaws_root_b1.FnSwapSelectionSortMatchesInsertionSort': WHATEVER THE INPUT: true; the input reads as it did. -/
def fnSwapSelectionSortMatchesInsertionSortSpec : ChangeSpec := { name := "fnSwapSelectionSortMatchesInsertionSort", fn := fun _ => fun
  | [d1, d2] => { results := [.lit (.bool true)], args := [d1, d2] }
  | _ => none }
def fnSwapSelectionSortMatchesInsertionSortRow : OpenClaim := { program := "qxb6612374a", sum := "d49910d9dd87b5c16d1245500b3d998a2f638f1eeec2dad085cde8e2021177bd", func := "example.com/keelstone/keelstone/zzlaws_root_b1.FnSwapSelectionSortMatchesInsertionSort", spec := "fnSwapSelectionSortMatchesInsertionSort", plainKeys := false, apart := false }
def FnSwapSelectionSortMatchesInsertionSortSaid : Prop := fnSwapSelectionSortMatchesInsertionSortRow.holds Try.pinned (OpenSpec.ofChange fnSwapSelectionSortMatchesInsertionSortSpec)

/-- ITS FALSE NEIGHBOUR: 'it returns false'. Refute it at one input. -/
def fnSwapSelectionSortMatchesInsertionSortWrong : ChangeSpec := { name := "fnSwapSelectionSortMatchesInsertionSort", fn := fun _ => fun
  | [d1, d2] => { results := [.lit (.bool false)], args := [d1, d2] }
  | _ => none }
def FnSwapSelectionSortMatchesInsertionSortWrongFalsely : Prop := fnSwapSelectionSortMatchesInsertionSortRow.holds Try.pinned (OpenSpec.ofChange fnSwapSelectionSortMatchesInsertionSortWrong)

/-- 'zzlaws_root_b1.FnSwapReversesByHalves': WHATEVER THE INPUT: true; the input reads as it did. -/
def fnSwapReversesByHalvesSpec : ChangeSpec := { name := "fnSwapReversesByHalves", fn := fun _ => fun
  | [d1, d2] => { results := [.lit (.bool true)], args := [d1, d2] }
  | _ => none }
def fnSwapReversesByHalvesRow : OpenClaim := { program := "qxb6612374a", sum := "d49910d9dd87b5c16d1245500b3d998a2f638f1eeec2dad085cde8e2021177bd", func := "example.com/keelstone/keelstone/zzlaws_root_b1.FnSwapReversesByHalves", spec := "fnSwapReversesByHalves", plainKeys := false, apart := false }
def FnSwapReversesByHalvesSaid : Prop := fnSwapReversesByHalvesRow.holds Try.pinned (OpenSpec.ofChange fnSwapReversesByHalvesSpec)

/-- ITS FALSE NEIGHBOUR: 'it returns false'. Refute it at one input. -/
def fnSwapReversesByHalvesWrong : ChangeSpec := { name := "fnSwapReversesByHalves", fn := fun _ => fun
  | [d1, d2] => { results := [.lit (.bool false)], args := [d1, d2] }
  | _ => none }
def FnSwapReversesByHalvesWrongFalsely : Prop := fnSwapReversesByHalvesRow.holds Try.pinned (OpenSpec.ofChange fnSwapReversesByHalvesWrong)

/-- 'zzlaws_root_b1.FnCoverFreshListWritesEveryNode': WHATEVER THE INPUT: true; the input reads as it did. -/
def fnCoverFreshListWritesEveryNodeSpec : ChangeSpec := { name := "fnCoverFreshListWritesEveryNode", fn := fun _ => fun
  | [d] => { results := [.lit (.bool true)], args := [d] }
  | _ => none }
def fnCoverFreshListWritesEveryNodeRow : OpenClaim := { program := "qxb6612374a", sum := "d49910d9dd87b5c16d1245500b3d998a2f638f1eeec2dad085cde8e2021177bd", func := "example.com/keelstone/keelstone/zzlaws_root_b1.FnCoverFreshListWritesEveryNode", spec := "fnCoverFreshListWritesEveryNode", recurses := true, plainKeys := false, apart := false }
def FnCoverFreshListWritesEveryNodeSaid : Prop := fnCoverFreshListWritesEveryNodeRow.holds Try.pinned (OpenSpec.ofChange fnCoverFreshListWritesEveryNodeSpec)

/-- ITS FALSE NEIGHBOUR: 'it returns false'. Refute it at one input. -/
def fnCoverFreshListWritesEveryNodeWrong : ChangeSpec := { name := "fnCoverFreshListWritesEveryNode", fn := fun _ => fun
  | [d] => { results := [.lit (.bool false)], args := [d] }
  | _ => none }
def FnCoverFreshListWritesEveryNodeWrongFalsely : Prop := fnCoverFreshListWritesEveryNodeRow.holds Try.pinned (OpenSpec.ofChange fnCoverFreshListWritesEveryNodeWrong)

/-- 'zzlaws_root_b1.FnCoverOneLeafListKeepsItsLeaf': WHATEVER THE INPUT: true; the input reads as it did. -/
def fnCoverOneLeafListKeepsItsLeafSpec : ChangeSpec := { name := "fnCoverOneLeafListKeepsItsLeaf", fn := fun _ => fun
  | [d1, d2, d3] => { results := [.lit (.bool true)], args := [d1, d2, d3] }
  | _ => none }
def fnCoverOneLeafListKeepsItsLeafRow : OpenClaim := { program := "qxb6612374a", sum := "d49910d9dd87b5c16d1245500b3d998a2f638f1eeec2dad085cde8e2021177bd", func := "example.com/keelstone/keelstone/zzlaws_root_b1.FnCoverOneLeafListKeepsItsLeaf", spec := "fnCoverOneLeafListKeepsItsLeaf", recurses := true, plainKeys := false, apart := false }
def FnCoverOneLeafListKeepsItsLeafSaid : Prop := fnCoverOneLeafListKeepsItsLeafRow.holds Try.pinned (OpenSpec.ofChange fnCoverOneLeafListKeepsItsLeafSpec)

/-- ITS FALSE NEIGHBOUR: 'it returns false'. Refute it at one input. -/
def fnCoverOneLeafListKeepsItsLeafWrong : ChangeSpec := { name := "fnCoverOneLeafListKeepsItsLeaf", fn := fun _ => fun
  | [d1, d2, d3] => { results := [.lit (.bool false)], args := [d1, d2, d3] }
  | _ => none }
def FnCoverOneLeafListKeepsItsLeafWrongFalsely : Prop := fnCoverOneLeafListKeepsItsLeafRow.holds Try.pinned (OpenSpec.ofChange fnCoverOneLeafListKeepsItsLeafWrong)

end Rows
end Go.Proofs.Qxb6612374a

/-
  No cell of these rows narrows 'for every input' (looked for: loops, veiled, ifaces, maps, wideKeys, modest, calm, conditions, laid).
  DERIVED. THE GIVEN ROWS OF THIS SEAT. 2 by the template 'for every input the law returns true; each argument reads behind the call as it read before'; 0 by the template 'total and deterministic' (their statements: Qxb6612438aTotals.lean).
  GIVEN WITH THE SEED: the statements are not yours to turn. If you find one false, say at which input.
  Laid BY PROGRAM, IN A SANDBOX (cutbox-rows.mjs): the forced cells as the released guide's own fill.sh prints them over the translation 18d9ba9a82f13550… (all of the seat's roots in one cut). By AI agents, Wed Nov 11 2026. No macro, syntax, notation, axiom, sorry.
-/
import Derived.Test.Qxb6612438aChecked
import GoSem.Claim
import GoSem.ClaimJoined
import GoSem.ClaimMapViews
import Derived.JoinedTies
import Derived.KernelRfl
namespace Go.Proofs.Qxb6612438a
/- THE CELL 'sum', in the pinned program and in every row, IS THE sha256 OF THE DUMP (.gsa) THAT Qxb6612438aProg.lean LOADS. Nothing in Lean hashes anything: it is a label: what it is worth is what the hold of that sum in a sandbox is worth. -/
noncomputable def Try.pinned : Pinned := { name := "qxb6612438a", sum := "18d9ba9a82f1355024101ccdbd0ea810a48001bc55c0b9a736dfc4c18ddbbb01", checked := Try.checked }
namespace Rows
def none {H : Type} : Left H := { results := [], args := [] }

/-- 'zzlaws_root_b1.FnFirstWrongKeepsLeastHost': WHATEVER THE INPUT: true; the input reads as it did. -/
def fnFirstWrongKeepsLeastHostSpec : ChangeSpec := { name := "fnFirstWrongKeepsLeastHost", fn := fun _ => fun
  | [d1, d2] => { results := [.lit (.bool true)], args := [d1, d2] }
  | _ => none }
def fnFirstWrongKeepsLeastHostRow : OpenClaim := { program := "qxb6612438a", sum := "18d9ba9a82f1355024101ccdbd0ea810a48001bc55c0b9a736dfc4c18ddbbb01", func := "example.com/beforehand/beforehand/zzlaws_root_b1.FnFirstWrongKeepsLeastHost", spec := "fnFirstWrongKeepsLeastHost", apart := false }
def FnFirstWrongKeepsLeastHostSaid : Prop := fnFirstWrongKeepsLeastHostRow.holds Try.pinned (OpenSpec.ofChange fnFirstWrongKeepsLeastHostSpec)

/-- ITS FALSE NEIGHBOUR: 'it returns false'. Refute it at one input. -/
def fnFirstWrongKeepsLeastHostWrong : ChangeSpec := { name := "fnFirstWrongKeepsLeastHost", fn := fun _ => fun
  | [d1, d2] => { results := [.lit (.bool false)], args := [d1, d2] }
  | _ => none }
def FnFirstWrongKeepsLeastHostWrongFalsely : Prop := fnFirstWrongKeepsLeastHostRow.holds Try.pinned (OpenSpec.ofChange fnFirstWrongKeepsLeastHostWrong)

/-- 'zzlaws_root_b1.FnFirstWrongMergesHalves': WHATEVER THE INPUT: true; the input reads as it did. -/
def fnFirstWrongMergesHalvesSpec : ChangeSpec := { name := "fnFirstWrongMergesHalves", fn := fun _ => fun
  | [d1, d2, d3] => { results := [.lit (.bool true)], args := [d1, d2, d3] }
  | _ => none }
def fnFirstWrongMergesHalvesRow : OpenClaim := { program := "qxb6612438a", sum := "18d9ba9a82f1355024101ccdbd0ea810a48001bc55c0b9a736dfc4c18ddbbb01", func := "example.com/beforehand/beforehand/zzlaws_root_b1.FnFirstWrongMergesHalves", spec := "fnFirstWrongMergesHalves", apart := false }
def FnFirstWrongMergesHalvesSaid : Prop := fnFirstWrongMergesHalvesRow.holds Try.pinned (OpenSpec.ofChange fnFirstWrongMergesHalvesSpec)

/-- ITS FALSE NEIGHBOUR: 'it returns false'. Refute it at one input. -/
def fnFirstWrongMergesHalvesWrong : ChangeSpec := { name := "fnFirstWrongMergesHalves", fn := fun _ => fun
  | [d1, d2, d3] => { results := [.lit (.bool false)], args := [d1, d2, d3] }
  | _ => none }
def FnFirstWrongMergesHalvesWrongFalsely : Prop := fnFirstWrongMergesHalvesRow.holds Try.pinned (OpenSpec.ofChange fnFirstWrongMergesHalvesWrong)

end Rows
end Go.Proofs.Qxb6612438a

import Derived.Test.Qxb6612438aWalks
import Derived.ProofKit
import Derived.OpenShut
import Derived.ShutString
import Derived.ChangeOld
import Derived.Deep.Slices
namespace Go.Proofs.Qxb6612438a
open Go.ChangeShapes Go.WideShapes Go.ChangeAt Go.RowKit

theorem addr_add (b off i : Nat) : (⟨b, off, none⟩ : Addr).add i = ⟨b, off + i, none⟩ := by
  unfold Addr.add
  by_cases h : i = 0 <;> simp [h]

theorem own : ownKnob Try.prog.godebug = none := by kernel_rfl
theorem laidOut : laidOutB Try.prog = true := by kernel_rfl

section
variable {H : Type} {enc : TypeId × Value → H} {W : World} {fuel : Nat} {a : Option Addr} {len cap : Nat} {x : DataW H × List MemPlace}

theorem open_hosts (h : DataW.trod enc Try.prog W 0 (fun _ => true) true fuel 22 (Value.slice a len cap).cells.toList = some x) :
    len ≤ maxLen ∧ ∃ Hs, StrsAt W.heap.size W a len Hs := by
  rcases open_strings Try.underlying22 Try.underlying9 (by kernel_rfl) h with ⟨hcs, _⟩ | ⟨y, l, c, ss, hcs, _, hl, hm, hz, _, hcell, hsz⟩
  · simp [Value.cells] at hcs
    obtain ⟨rfl, rfl, rfl⟩ := hcs
    exact ⟨Nat.zero_le _, fun _ => ByteArray.empty, .inl rfl, fun i hi => absurd hi (Nat.not_lt_zero i)⟩
  · simp [Value.cells] at hcs
    obtain ⟨rfl, rfl, rfl⟩ := hcs
    simp at hz
    refine ⟨Nat.le_trans hl hm, fun i => ss.getD i ByteArray.empty, ?_, fun i hi => ?_⟩
    · by_cases h0 : len = 0
      · exact .inl h0
      · right
        obtain ⟨b, off, spot⟩ := y
        have hc := hcell 0 (by omega)
        have hspot : spot = none := by simpa [Addr.add] using World.cell?_spot hc
        subst hspot
        refine ⟨b, off, rfl, ?_, fun i hi => ?_⟩
        · have := World.block_lt_of_cell? _ _ hc
          rw [addr_add] at this
          exact this
        · have := hcell i (by omega)
          rw [addr_add] at this
          exact this
    · have hm' : ss.getD i ByteArray.empty ∈ ss := by
        rw [List.getD_eq_getElem?_getD, List.getElem?_eq_getElem (show i < ss.length by omega)]
        exact List.getElem_mem _
      exact hsz _ hm'

theorem open_refused (h : DataW.trod enc Try.prog W 0 (fun _ => true) true fuel 23 (Value.slice a len cap).cells.toList = some x) :
    len ≤ maxLen ∧ ∃ R, BoolsAt W.heap.size W a len R := by
  rcases Deep.open_slice1 Try.underlying23 (by kernel_rfl) h with ⟨hcs, _⟩ | ⟨y, l, c, m, n, V, D, Pl, hcs, _, hl, hm, hz, _, hcell⟩
  · simp [Value.cells] at hcs
    obtain ⟨rfl, rfl, rfl⟩ := hcs
    exact ⟨Nat.zero_le _, fun _ => false, fun _ _ => rfl, .inl rfl⟩
  · simp [Value.cells] at hcs
    obtain ⟨rfl, rfl, rfl⟩ := hcs
    simp at hz
    have each : ∀ i, i < m → ∃ b, V i = .bool b := fun i hi => by
      obtain ⟨b, hb, _⟩ := DataW.trod_bool Try.underlying4 (hcell i hi).2
      exact ⟨b, by simpa using hb⟩
    obtain ⟨R, hR⟩ := Deep.choose_lt (α := Bool) each
    refine ⟨Nat.le_trans hl hm, fun i => decide (i < len) && R i, fun i hi => by simp; omega, ?_⟩
    by_cases h0 : len = 0
    · exact .inl h0
    · right
      obtain ⟨b, off, spot⟩ := y
      have hc := (hcell 0 (by omega)).1
      have hspot : spot = none := by simpa [Addr.add] using World.cell?_spot hc
      subst hspot
      refine ⟨b, off, rfl, ?_, fun i hi => ?_⟩
      · have := World.block_lt_of_cell? _ _ hc
        rw [addr_add] at this
        exact this
      · have := (hcell i (by omega)).1
        rw [addr_add, hR i (by omega)] at this
        rw [this]
        simp [hi]
end
end Go.Proofs.Qxb6612438a

import Derived.Test.Qxb6612310aArgs
import Derived.ProofKit
import Derived.OpenShut
import Derived.ShutString
import Derived.ChangeOld
import Derived.Deep.Slices
import Derived.Deep.Strs
namespace Go.Proofs.Qxb6612310a
open Go.ChangeShapes Go.WideShapes Go.ChangeAt Go.RowKit

theorem addr_add (b off i : Nat) : (⟨b, off, none⟩ : Addr).add i = ⟨b, off + i, none⟩ := by
  unfold Addr.add
  by_cases h : i = 0 <;> simp [h]

theorem own : ownKnob Try.prog.godebug = none := by kernel_rfl
theorem cellsOf42 : Try.prog.cellsOf 42 = 3 := by kernel_rfl
theorem cellsOf44 : Try.prog.cellsOf 44 = 3 := by kernel_rfl
theorem cellsOf9 : Try.prog.cellsOf 9 = 1 := by kernel_rfl
theorem cellsOf3 : Try.prog.cellsOf 3 = 1 := by kernel_rfl

section
variable {H : Type} {enc : TypeId × Value → H} {W : World} {fuel : Nat} {a : Option Addr} {len cap : Nat} {x : DataW H × List MemPlace}

theorem open_specs (h : DataW.trod enc Try.prog W 0 (fun _ => true) true fuel 22 (Value.slice a len cap).cells.toList = some x) :
    len ≤ maxLen ∧ ∃ T N E, SpecsAt W.heap.size W a len T N E := by
  rcases Deep.open_slice Try.underlying22 h with ⟨hcs, _⟩ | ⟨y, l, c, m, k, D, Pl, hcs, _, hl, hm, hz, _, hx⟩
  · simp [Value.cells] at hcs
    obtain ⟨rfl, rfl, rfl⟩ := hcs
    exact ⟨Nat.zero_le _, fun _ => ByteArray.empty, fun _ => ByteArray.empty, fun _ => ByteArray.empty, .inl rfl, fun i hi => absurd hi (Nat.not_lt_zero i)⟩
  · simp [Value.cells] at hcs
    obtain ⟨rfl, rfl, rfl⟩ := hcs
    simp at hz
    have each : ∀ i, i < m → ∃ q : ByteArray × ByteArray × ByteArray, (W.cell? (y.add (i * 3)) = some (.string q.1) ∧ W.cell? (y.add (i * 3 + 1)) = some (.string q.2.1) ∧ W.cell? (y.add (i * 3 + 2)) = some (.string q.2.2)) ∧ q.1.size ≤ maxLen ∧ q.2.1.size ≤ maxLen ∧ q.2.2.size ≤ maxLen := by
      intro i hi
      obtain ⟨cs', h1, h2⟩ := hx i hi
      rw [cellsOf42] at h1
      obtain ⟨_, hlen, hcell⟩ := World.cells?_some h1
      obtain ⟨y0, y1, y2, n, _, _, g0, g1, g2⟩ := Deep.trod_struct3 Try.underlying42 h2
      match cs', hlen with
      | [v0, v1, v2], _ =>
        simp [cellsOf9] at g0 g1 g2
        obtain ⟨s0, e0, _, z0⟩ := DataW.trod_string Try.underlying9 g0
        obtain ⟨s1, e1, _, z1⟩ := DataW.trod_string Try.underlying9 g1
        obtain ⟨s2, e2, _, z2⟩ := DataW.trod_string Try.underlying9 g2
        simp at e0 e1 e2
        subst e0 e1 e2
        have c0 := hcell 0 (by omega)
        have c1 := hcell 1 (by omega)
        have c2 := hcell 2 (by omega)
        rw [Deep.add_add] at c0 c1 c2
        exact ⟨(s0, s1, s2), ⟨by simpa using c0, by simpa using c1, by simpa using c2⟩, z0, z1, z2⟩
    obtain ⟨q, hq⟩ := Deep.choose_lt each
    refine ⟨Nat.le_trans hl hm, fun i => (q i).1, fun i => (q i).2.1, fun i => (q i).2.2, ?_, fun i hi => (hq i (by omega)).2⟩
    by_cases h0 : len = 0
    · exact .inl h0
    · right
      obtain ⟨b, off, spot⟩ := y
      have hc := (hq 0 (by omega)).1.1
      have hspot : spot = none := by simpa [Addr.add] using World.cell?_spot hc
      subst hspot
      refine ⟨b, off, rfl, ?_, fun i hi => ?_⟩
      · have := World.block_lt_of_cell? _ _ hc
        rw [addr_add] at this
        exact this
      · have := (hq i (by omega)).1
        rw [addr_add, addr_add, addr_add] at this
        exact this

theorem open_ms (h : DataW.trod enc Try.prog W 0 (fun _ => true) true fuel 23 (Value.slice a len cap).cells.toList = some x) :
    len ≤ maxLen ∧ ∃ P S L, MsAt W.heap.size W a len P S L := by
  rcases Deep.open_slice Try.underlying23 h with ⟨hcs, _⟩ | ⟨y, l, c, m, k, D, Pl, hcs, _, hl, hm, hz, _, hx⟩
  · simp [Value.cells] at hcs
    obtain ⟨rfl, rfl, rfl⟩ := hcs
    exact ⟨Nat.zero_le _, fun _ => 0, fun _ => ByteArray.empty, fun _ => 0, .inl rfl, fun i hi => absurd hi (Nat.not_lt_zero i)⟩
  · simp [Value.cells] at hcs
    obtain ⟨rfl, rfl, rfl⟩ := hcs
    simp at hz
    have each : ∀ i, i < m → ∃ q : Int × ByteArray × Int, (W.cell? (y.add (i * 3)) = some (.int .i64 q.1) ∧ W.cell? (y.add (i * 3 + 1)) = some (.string q.2.1) ∧ W.cell? (y.add (i * 3 + 2)) = some (.int .i64 q.2.2)) ∧ q.2.1.size ≤ maxLen := by
      intro i hi
      obtain ⟨cs', h1, h2⟩ := hx i hi
      rw [cellsOf44] at h1
      obtain ⟨_, hlen, hcell⟩ := World.cells?_some h1
      obtain ⟨y0, y1, y2, n, _, _, g0, g1, g2⟩ := Deep.trod_struct3 Try.underlying44 h2
      match cs', hlen with
      | [v0, v1, v2], _ =>
        simp [cellsOf9, cellsOf3] at g0 g1 g2
        obtain ⟨s0, e0, _, z0⟩ := DataW.trod_int Try.underlying3 g0
        obtain ⟨s1, e1, _, z1⟩ := DataW.trod_string Try.underlying9 g1
        obtain ⟨s2, e2, _, z2⟩ := DataW.trod_int Try.underlying3 g2
        simp at e0 e1 e2
        subst e0 e1 e2
        have c0 := hcell 0 (by omega)
        have c1 := hcell 1 (by omega)
        have c2 := hcell 2 (by omega)
        rw [Deep.add_add] at c0 c1 c2
        exact ⟨(s0, s1, s2), ⟨by simpa using c0, by simpa using c1, by simpa using c2⟩, z1⟩
    obtain ⟨q, hq⟩ := Deep.choose_lt each
    refine ⟨Nat.le_trans hl hm, fun i => (q i).1, fun i => (q i).2.1, fun i => (q i).2.2, ?_, fun i hi => (hq i (by omega)).2⟩
    by_cases h0 : len = 0
    · exact .inl h0
    · right
      obtain ⟨b, off, spot⟩ := y
      have hc := (hq 0 (by omega)).1.1
      have hspot : spot = none := by simpa [Addr.add] using World.cell?_spot hc
      subst hspot
      refine ⟨b, off, rfl, ?_, fun i hi => ?_⟩
      · have := World.block_lt_of_cell? _ _ hc
        rw [addr_add] at this
        exact this
      · have := (hq i (by omega)).1
        rw [addr_add, addr_add, addr_add] at this
        exact this
end
end Go.Proofs.Qxb6612310a

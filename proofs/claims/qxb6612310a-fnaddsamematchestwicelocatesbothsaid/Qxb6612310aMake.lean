import Derived.Test.Qxb6612310aArgs
import Derived.Deep.RegionWith
import Derived.Deep.RegionHeld3
namespace Go.Proofs.Qxb6612310a
open Go.RowKit Plain
set_option linter.unusedVariables false
set_option linter.unusedSimpArgs false

theorem info48 : (Try.prog.info? 48).map (fun i => (i.zero, i.size, i.bytes)) = some (some (.agg #[.string ByteArray.empty, .string ByteArray.empty, .nilFunc, .string ByteArray.empty, .pointer none]), 5, 64) := by kernel_rfl
theorem info56 : (Try.prog.info? 56).map (fun i => (i.zero, i.size, i.bytes)) = some (some (.agg #[.pointer none, .string ByteArray.empty, .int .i64 0]), 3, 32) := by kernel_rfl

/-- One pattern's cells: its type, name, endpoint. -/
structure PatAt (w : World) (g o : Nat) (t n e : ByteArray) : Prop where
  c0 : w.cell? ⟨g, o, none⟩ = some (.string t)
  c1 : w.cell? ⟨g, o + 1, none⟩ = some (.string n)
  c3 : w.cell? ⟨g, o + 3, none⟩ = some (.string e)
  f0 : w.frozen? ⟨g, o, none⟩ = false
  f1 : w.frozen? ⟨g, o + 1, none⟩ = false
  f3 : w.frozen? ⟨g, o + 3, none⟩ = false

/-- The row of patterns, filled up to k. -/
def PatRow (w : World) (g n k : Nat) (T N E : Nat → ByteArray) : Prop := ∀ i, i < n → ∃ t m e, PatAt w g (i * 5) t m e ∧ (i < k → t = T i ∧ m = N i ∧ e = E i)

theorem made_cell {w : World} {B g n : Nat} (z0 z1 z2 z3 z4 : Value) (h : w.ownsRow B 48 5 (.slice (some ⟨g, 0, none⟩) n n) n (madeCells #[z0, z1, z2, z3, z4] (n * 5)).toList) (i f : Nat) (hi : i < n) (hf : f < 5) : w.cell? ⟨g, i * 5 + f, none⟩ = #[z0, z1, z2, z3, z4][f]? := by
  rw [h.cellAt (i * 5 + f) (by omega)]
  rw [← Array.getElem?_toList] at *
  unfold madeCells
  simp [show i * 5 + f < n * 5 by omega, show (i * 5 + f) % 5 = f by omega]
  rcases (show f = 0 ∨ f = 1 ∨ f = 2 ∨ f = 3 ∨ f = 4 by omega) with rfl | rfl | rfl | rfl | rfl <;> rfl

theorem PatRow_made {w : World} {B g n : Nat} (T N E : Nat → ByteArray) (h : w.ownsRow B 48 5 (.slice (some ⟨g, 0, none⟩) n n) n (madeCells #[.string ByteArray.empty, .string ByteArray.empty, .nilFunc, .string ByteArray.empty, .pointer none] (n * 5)).toList) : PatRow w g n 0 T N E := by
  intro i hi
  refine ⟨_, _, _, ⟨made_cell _ _ _ _ _ h i 0 hi (by omega), made_cell _ _ _ _ _ h i 1 hi (by omega), made_cell _ _ _ _ _ h i 3 hi (by omega), h.frozenAt _, h.frozenAt _, h.frozenAt _⟩, fun h => absurd h (Nat.not_lt_zero _)⟩

theorem PatRow_next {w : World} {g n k : Nat} {T N E : Nat → ByteArray} (h : PatRow w g n k T N E) (hk : k < n) :
    PatRow (((w.setCell ⟨g, k * 5, none⟩ (.string (T k))).setCell ⟨g, k * 5 + 1, none⟩ (.string (N k))).setCell ⟨g, k * 5 + 3, none⟩ (.string (E k))) g n (k + 1) T N E := by
  intro i hi
  obtain ⟨t, m, e, p, he⟩ := h i hi
  have ne : ∀ o o', o ≠ o' → (⟨g, o, none⟩ : Addr) ≠ ⟨g, o', none⟩ := fun o o' h e => h (congrArg Addr.off e)
  by_cases ei : i = k
  · subst ei
    refine ⟨T i, N i, E i, ⟨?_, ?_, ?_, by simpa using p.f0, by simpa using p.f1, by simpa using p.f3⟩, fun _ => ⟨rfl, rfl, rfl⟩⟩
    · rw [World.cell?_setCell_other _ _ _ _ (ne _ _ (by omega)), World.cell?_setCell_other _ _ _ _ (ne _ _ (by omega))]
      exact World.cell?_setCell_same _ _ _ p.c0
    · rw [World.cell?_setCell_other _ _ _ _ (ne _ _ (by omega))]
      exact World.cell?_setCell_same _ _ _ (by rw [World.cell?_setCell_other _ _ _ _ (ne _ _ (by omega))]; exact p.c1)
    · exact World.cell?_setCell_same _ _ _ (by rw [World.cell?_setCell_other _ _ _ _ (ne _ _ (by omega)), World.cell?_setCell_other _ _ _ _ (ne _ _ (by omega))]; exact p.c3)
  · refine ⟨t, m, e, ⟨?_, ?_, ?_, by simpa using p.f0, by simpa using p.f1, by simpa using p.f3⟩, fun h => he (by omega)⟩
    · rw [World.cell?_setCell_other _ _ _ _ (ne _ _ (by omega)), World.cell?_setCell_other _ _ _ _ (ne _ _ (by omega)), World.cell?_setCell_other _ _ _ _ (ne _ _ (by omega))]
      exact p.c0
    · rw [World.cell?_setCell_other _ _ _ _ (ne _ _ (by omega)), World.cell?_setCell_other _ _ _ _ (ne _ _ (by omega)), World.cell?_setCell_other _ _ _ _ (ne _ _ (by omega))]
      exact p.c1
    · rw [World.cell?_setCell_other _ _ _ _ (ne _ _ (by omega)), World.cell?_setCell_other _ _ _ _ (ne _ _ (by omega)), World.cell?_setCell_other _ _ _ _ (ne _ _ (by omega))]
      exact p.c3

set_option maxHeartbeats 1000000 in
theorem patterns_any (a : Option Addr) (n cap : Nat) (T N E : Nat → ByteArray) (w : World) (hn : (n : Int) ≤ 65536) (hn0 : 0 < n) (hS : SpecsAt w.heap.size w a n T N E) :
    Calls Try.prog 10 #[.slice a n cap] w fun e w' => e = .returned (.slice (some ⟨w.heap.size, 0, none⟩) n n) ∧ PatRow w' w.heap.size n n T N E ∧ Below w.heap.size w w' := by
  obtain ⟨i0, hi, hz0, hz1, hz2⟩ := info_parts info48
  obtain ⟨h0 | ⟨b, off, rfl, hb, hc⟩, hs⟩ := hS
  · omega
  go_enter Try.func10, Try.ntmps10
  go_wp2_with (at_make; refine wpList_make_full _ rfl _ _ 29 rfl w.heap.size 48 i0 (.agg #[.string ByteArray.empty, .string ByteArray.empty, .nilFunc, .string ByteArray.empty, .pointer none]) 5 Try.underlying29 hi hz0 hz1 _ _ _ _ n rfl rfl rfl rfl (by rw [hz2]; omega) (by unfold maxLen; omega) (Nat.le_refl _) ?_; intro w1 hown hgrow)
  have HB1 : Hid (Below w.heap.size w w1) := (Below.refl _ _).grown hgrow (Nat.le_refl _) (fun k e => by cases e)
  have HR1 := hide (PatRow_made T N E hown)
  clear hown hgrow hi hz0 hz1 hz2
  go_loopw [4] (fun u wr => ∃ k : Nat, k ≤ n ∧ u = .int .i64 k ∧ PatRow wr w.heap.size n k T N E ∧ Below w.heap.size w wr) (fun u _ => n - (intOf u).toNat)
  case atStart => exact ⟨0, Nat.zero_le _, rfl, HR1.out, HB1.out⟩
  case round =>
    obtain ⟨k, hk, rfl, hR, hB⟩ := hrel
    have HR := hide hR
    have HB := hide hB
    clear hR hB
    by_cases hlt : k < n
    · obtain ⟨c0, c1, c2⟩ := hc k hlt
      have c0 := (HB.out.cell (p := ⟨b, off + k * 3, none⟩) hb).trans c0
      have c1 := (HB.out.cell (p := ⟨b, off + k * 3 + 1, none⟩) hb).trans c1
      have c2 := (HB.out.cell (p := ⟨b, off + k * 3 + 2, none⟩) hb).trans c2
      obtain ⟨t, m, e, p, _⟩ := HR.out k hlt
      have p0 := p.c0
      have p1 := p.c1
      have p3 := p.c3
      have q0 := p.f0
      have q1 := p.f1
      have q3 := p.f3
      have hne : ¬ b = w.heap.size := by omega
      have hne' : ¬ w.heap.size = b := by omega
      clear p
      go_wp2_with fail
      have HR2 := hide (PatRow_next HR.out hlt)
      have HB2 := hide (((HB.out.setCell (p := ⟨w.heap.size, k * 5, none⟩) (Nat.le_refl _) (.string (T k))).setCell (p := ⟨w.heap.size, k * 5 + 1, none⟩) (Nat.le_refl _) (.string (N k))).setCell (p := ⟨w.heap.size, k * 5 + 3, none⟩) (Nat.le_refl _) (.string (E k)))
      go_roundw
      case rel => exact ⟨k + 1, by omega, by go_num, HR2.out, HB2.out⟩
      case measure => simp [intOf]; omega
    · obtain rfl : k = n := by omega
      go_wp2_with fail
      go_ret
      exact ⟨rfl, HR.out, HB.out⟩

end Go.Proofs.Qxb6612310a

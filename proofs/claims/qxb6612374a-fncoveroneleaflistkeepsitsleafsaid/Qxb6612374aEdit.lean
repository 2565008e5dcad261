import Derived.Test.Qxb6612374aModel
import Derived.BigQuiet
import Derived.Deep.QuietTactic
import Derived.Deep.RegionWith
import Derived.Deep.RegionLaw
namespace Go.Proofs.Qxb6612374a
open Go.RowKit Plain
set_option linter.unusedVariables false
set_option linter.unusedSimpArgs false

/-- A listEdit in memory: block be; its old list bo (of no leaf, or of one), its maps bl and bw. -/
structure Ed (one : Bool) (w : World) (be bo bl bw : Nat) : Prop where
  c0 : w.cell? ⟨be, 0, none⟩ = some (.pointer (some ⟨bo, 0, none⟩))
  c2 : w.cell? ⟨be, 2, none⟩ = some (.map (some bl))
  c3 : w.cell? ⟨be, 3, none⟩ = some (.map (some bw))
  c4 : w.cell? ⟨be, 4, none⟩ = some (.slice none 0 0)
  leaves : w.heap[bl]? = some (.map #[] 0)
  old0 : one = false → w.cell? ⟨bo, 0, none⟩ = some (.slice none 0 0)
  old1 : one = true → ∃ b2 b1, w.cell? ⟨bo, 0, none⟩ = some (.slice (some ⟨b2, 0, none⟩) 1 1) ∧ w.cell? ⟨b2, 0, none⟩ = some (.slice (some ⟨b1, 0, none⟩) 1 1)
  ne : bl ≠ bw

/-- Its shape is laid. -/
def Shaped (w : World) (be n : Nat) : Prop :=
  ∃ bs cap, w.cell? ⟨be, 1, none⟩ = some (.slice (some ⟨bs, 0, none⟩) (top n + 1) cap) ∧ ∀ l, l ≤ top n → w.cell? ⟨bs, l, none⟩ = some (.int .i64 (lv n l))

theorem WrMap.ne {w : World} {bw : Nat} {L : List (Nat × Nat)} (h : WrMap w bw L) {b o : Nat} {v : Value} (hc : w.cell? ⟨b, o, none⟩ = some v) : some b ≠ some bw := by
  intro e
  cases e
  obtain ⟨_, _, D, ⟨es, clock, hb, _⟩, _⟩ := h
  simp [World.cell?, hb] at hc

theorem Ed.kept {one : Bool} {w w' : World} {be bo bl bw : Nat} {L : List (Nat × Nat)} (h : Ed one w be bo bl bw) (hw : WrMap w bw L) (hg : w.grownBy w' (some bw)) : Ed one w' be bo bl bw where
  c0 := hg.cell h.c0 (hw.ne h.c0)
  c2 := hg.cell h.c2 (hw.ne h.c2)
  c3 := hg.cell h.c3 (hw.ne h.c3)
  c4 := hg.cell h.c4 (hw.ne h.c4)
  leaves := (hg.block bl (Array.getElem?_eq_some_iff.1 h.leaves).1 (fun e => h.ne (by cases e; rfl))).trans h.leaves
  old0 := fun e => hg.cell (h.old0 e) (hw.ne (h.old0 e))
  old1 := fun e => by
    obtain ⟨b2, b1, h1, h2⟩ := h.old1 e
    exact ⟨b2, b1, hg.cell h1 (hw.ne h1), hg.cell h2 (hw.ne h2)⟩
  ne := h.ne

theorem Shaped.kept {w w' : World} {be bw n : Nat} {L : List (Nat × Nat)} (h : Shaped w be n) (hw : WrMap w bw L) (hg : w.grownBy w' (some bw)) : Shaped w' be n := by
  obtain ⟨bs, cap, h1, h2⟩ := h
  exact ⟨bs, cap, hg.cell h1 (hw.ne h1), fun l hl => hg.cell (h2 l hl) (hw.ne (h2 l hl))⟩

theorem grown_drewN (w : World) (k : Nat) (r : Option Nat) : w.grownBy (w.drewN k) r := ⟨rfl, rfl, rfl, Nat.le_refl _, fun _ _ _ => rfl⟩
theorem grown_drew (w : World) (r : Option Nat) : w.grownBy w.drew r := ⟨rfl, rfl, rfl, Nat.le_refl _, fun _ _ _ => rfl⟩

/-- A store into a new block. -/
theorem grown_new {w w1 : World} {r : Option Nat} (h : w.grownBy w1 r) (b o : Nat) (v : Value) (hb : w.heap.size ≤ b) : w.grownBy (w1.setCell ⟨b, o, none⟩ v) r :=
  ⟨h.os, h.tape, h.output, by rw [World.size_setCell]; exact h.size, fun k hk hne => (Below.heap_setCell _ _ _ _ (by simp; omega)).trans (h.block k hk hne)⟩

set_option maxHeartbeats 1000000 in
/-- 'oldPage' of a node of a list that had none. -/
theorem oldPage_none (be bo : Nat) (l i : Nat) (w : World) (c0 : w.cell? ⟨be, 0, none⟩ = some (.pointer (some ⟨bo, 0, none⟩))) (o0 : w.cell? ⟨bo, 0, none⟩ = some (.slice none 0 0)) (hbe : be < w.heap.size) (hbo : bo < w.heap.size) :
    Calls Try.prog 25 #[.pointer (some ⟨be, 0, none⟩), .agg #[.int .i64 l, .int .i64 i]] w fun e w' => e = .returned (.tuple #[.agg #[.int .u64 0, .int .u32 0], .bool false]) ∧ w.grownBy w' none := by
  have hd : decide ((l : Int) < 0) = false := by simp
  have hbe1 : be < w.heap.size + 1 := by omega
  have hbo1 : bo < w.heap.size + 1 := by omega
  go_enter Try.func25, Try.ntmps25
  go_wp2
  go_quiet (fail)
  go_wp2
  exact bodyPost_ret (v := .tuple #[.agg #[.int .u64 0, .int .u32 0], .bool false]) (by simp [results, Try.results25, go_sem]) rfl ⟨rfl, grown_new (grown_new (((World.grownBy_alloc _ _ _).trans (World.grownBy_alloc _ _ _)).trans (grown_drewN _ _ _)) _ _ _ (by omega)) _ _ _ (by omega)⟩

set_option maxHeartbeats 1000000 in
/-- 'oldPage' of a node above the one old leaf's level. -/
theorem oldPage_up (be bo b2 : Nat) (l i : Nat) (w : World) (c0 : w.cell? ⟨be, 0, none⟩ = some (.pointer (some ⟨bo, 0, none⟩))) (o0 : w.cell? ⟨bo, 0, none⟩ = some (.slice (some ⟨b2, 0, none⟩) 1 1)) (hbe : be < w.heap.size) (hbo : bo < w.heap.size) (hl : 1 ≤ l) :
    Calls Try.prog 25 #[.pointer (some ⟨be, 0, none⟩), .agg #[.int .i64 l, .int .i64 i]] w fun e w' => e = .returned (.tuple #[.agg #[.int .u64 0, .int .u32 0], .bool false]) ∧ w.grownBy w' none := by
  have hd : decide ((l : Int) < 1) = false := by simp; omega
  have hbe1 : be < w.heap.size + 1 := by omega
  have hbo1 : bo < w.heap.size + 1 := by omega
  go_enter Try.func25, Try.ntmps25
  go_wp2
  go_quiet (fail)
  go_wp2
  exact bodyPost_ret (v := .tuple #[.agg #[.int .u64 0, .int .u32 0], .bool false]) (by simp [results, Try.results25, go_sem]) rfl ⟨rfl, grown_new (grown_new (((World.grownBy_alloc _ _ _).trans (World.grownBy_alloc _ _ _)).trans (grown_drewN _ _ _)) _ _ _ (by omega)) _ _ _ (by omega)⟩

set_option maxHeartbeats 1000000 in
/-- 'oldPage' of a leaf beside the one old leaf. -/
theorem oldPage_leaf (be bo b2 b1 : Nat) (i : Nat) (w : World) (c0 : w.cell? ⟨be, 0, none⟩ = some (.pointer (some ⟨bo, 0, none⟩))) (o0 : w.cell? ⟨bo, 0, none⟩ = some (.slice (some ⟨b2, 0, none⟩) 1 1)) (o1 : w.cell? ⟨b2, 0, none⟩ = some (.slice (some ⟨b1, 0, none⟩) 1 1)) (hbe : be < w.heap.size) (hbo : bo < w.heap.size) (hb2 : b2 < w.heap.size) (hi : 1 ≤ i) :
    Calls Try.prog 25 #[.pointer (some ⟨be, 0, none⟩), .agg #[.int .i64 0, .int .i64 i]] w fun e w' => e = .returned (.tuple #[.agg #[.int .u64 0, .int .u32 0], .bool false]) ∧ w.grownBy w' none := by
  have hd : decide ((i : Int) < 1) = false := by simp; omega
  have hbe1 : be < w.heap.size + 1 := by omega
  have hbo1 : bo < w.heap.size + 1 := by omega
  have hb21 : b2 < w.heap.size + 1 := by omega
  go_enter Try.func25, Try.ntmps25
  go_wp2
  go_quiet (fail)
  go_wp2
  exact bodyPost_ret (v := .tuple #[.agg #[.int .u64 0, .int .u32 0], .bool false]) (by simp [results, Try.results25, go_sem]) rfl ⟨rfl, grown_new (grown_new (((World.grownBy_alloc _ _ _).trans (World.grownBy_alloc _ _ _)).trans (grown_drewN _ _ _)) _ _ _ (by omega)) _ _ _ (by omega)⟩

/-- 'oldPage' of a node that is to be written: none. -/
theorem oldPage_any {one : Bool} {be bo bl bw : Nat} (n l i : Nat) (w : World) (h : Ed one w be bo bl bw) (hN : Plain.Node one n (l, i)) :
    Calls Try.prog 25 #[.pointer (some ⟨be, 0, none⟩), .agg #[.int .i64 l, .int .i64 i]] w fun e w' => e = .returned (.tuple #[.agg #[.int .u64 0, .int .u32 0], .bool false]) ∧ w.grownBy w' none := by
  have hbe := World.block_lt_of_cell? _ _ h.c0
  cases one with
  | false => exact oldPage_none be bo l i w h.c0 (h.old0 rfl) hbe (World.block_lt_of_cell? _ _ (h.old0 rfl))
  | true =>
    obtain ⟨b2, b1, h1, h2⟩ := h.old1 rfl
    have hbo := World.block_lt_of_cell? _ _ h1
    have hb2 := World.block_lt_of_cell? _ _ h2
    by_cases hl : 1 ≤ l
    · exact oldPage_up be bo b2 l i w h.c0 h1 hbe hbo hl
    · obtain rfl : l = 0 := by omega
      have hi : 1 ≤ i := by
        have := hN.2.2 rfl
        by_cases e : i = 0
        · exact absurd (by rw [e]) this
        · omega
      exact oldPage_leaf be bo b2 b1 i w h.c0 h1 h2 hbe hbo hb2 hi

end Go.Proofs.Qxb6612374a

import Derived.Test.Qxb6612374aCover
namespace Go.Proofs.Qxb6612374a
open Go.RowKit Plain
set_option linter.unusedVariables false
set_option linter.unusedSimpArgs false

/-- A new listEdit, nothing covered yet. -/
def Fresh (one : Bool) (B : Nat) (w' : World) (be bo bl bw : Nat) : Prop :=
  Ed one w' be bo bl bw ∧ w'.cell? ⟨be, 1, none⟩ = some (.slice none 0 0) ∧ w'.frozen? ⟨be, 1, none⟩ = false ∧ WrMap w' bw [] ∧ B ≤ be ∧ B ≤ bw

theorem heap_alloc_at (w : World) (o : Obj) (k : Nat) (h : k = w.heap.size) : (w.alloc o).heap[k]? = some o := by
  subst h
  exact (MapKept.heap_alloc w o).1
theorem heap_alloc_past (w : World) (o : Obj) (k : Nat) (h : k < w.heap.size) : (w.alloc o).heap[k]? = w.heap[k]? := Below.heap_alloc w o k h

theorem fresh_laid (one : Bool) (X : World) (n0 n1 : Value) (B : Nat) (hB : B ≤ X.heap.size) (h0 : one = false → n0 = .slice none 0 0) (h1 : one = true → ∃ b2 b1, n0 = .slice (some ⟨b2, 0, none⟩) 1 1 ∧ X.cell? ⟨b2, 0, none⟩ = some (.slice (some ⟨b1, 0, none⟩) 1 1)) :
    Fresh one B ((((X.alloc (.cells #[n0, n1] 52)).alloc (.map #[] 0)).alloc (.map #[] 0)).alloc (.cells #[.pointer (some ⟨X.heap.size, 0, none⟩), .slice none 0 0, .map (some (X.heap.size + 1)), .map (some (X.heap.size + 1 + 1)), .slice none 0 0] 57))
      (X.heap.size + 1 + 1 + 1) X.heap.size (X.heap.size + 1) (X.heap.size + 1 + 1) := by
  have hM : WrMap ((((X.alloc (.cells #[n0, n1] 52)).alloc (.map #[] 0)).alloc (.map #[] 0)).alloc (.cells #[.pointer (some ⟨X.heap.size, 0, none⟩), .slice none 0 0, .map (some (X.heap.size + 1)), .map (some (X.heap.size + 1 + 1)), .slice none 0 0] 57)) (X.heap.size + 1 + 1) [] := by
    have := (WrMap_made ((X.alloc (.cells #[n0, n1] 52)).alloc (.map #[] 0))).alloc (.cells #[.pointer (some ⟨X.heap.size, 0, none⟩), .slice none 0 0, .map (some (X.heap.size + 1)), .map (some (X.heap.size + 1 + 1)), .slice none 0 0] 57)
    simpa using this
  have old : ((((X.alloc (.cells #[n0, n1] 52)).alloc (.map #[] 0)).alloc (.map #[] 0)).alloc (.cells #[.pointer (some ⟨X.heap.size, 0, none⟩), .slice none 0 0, .map (some (X.heap.size + 1)), .map (some (X.heap.size + 1 + 1)), .slice none 0 0] 57)).cell? ⟨X.heap.size, 0, none⟩ = some n0 := by
    rw [World.cell?_alloc_past _ _ _ (by simp; omega), World.cell?_alloc_past _ _ _ (by simp; omega), World.cell?_alloc_past _ _ _ (by simp)]
    exact World.cell?_alloc_at _ _ _ _ rfl
  refine ⟨⟨?_, ?_, ?_, ?_, ?_, fun e => ?_, fun e => ?_, by omega⟩, ?_, ?_, hM, by omega, by omega⟩
  · exact World.cell?_alloc_at _ _ _ _ (by simp)
  · exact World.cell?_alloc_at _ _ _ _ (by simp)
  · exact World.cell?_alloc_at _ _ _ _ (by simp)
  · exact World.cell?_alloc_at _ _ _ _ (by simp)
  · rw [heap_alloc_past _ _ _ (by simp), heap_alloc_past _ _ _ (by simp)]
    exact heap_alloc_at _ _ _ (by simp)
  · rw [old, h0 e]
  · obtain ⟨b2, b1, e1, e2⟩ := h1 e
    have lt := World.block_lt_of_cell? _ _ e2
    simp only at lt
    refine ⟨b2, b1, by rw [old, e1], ?_⟩
    rw [World.cell?_alloc_past _ _ _ (by simp; omega), World.cell?_alloc_past _ _ _ (by simp; omega), World.cell?_alloc_past _ _ _ (by simp; omega), World.cell?_alloc_past _ _ _ lt]
    exact e2
  · exact World.cell?_alloc_at _ _ _ _ (by simp)
  · exact World.frozen?_alloc_at _ _ _ _ (by simp)

theorem below4 (w X : World) (h : Below w.heap.size w X) (o1 o2 o3 o4 : Obj) : Below w.heap.size w ((((X.alloc o1).alloc o2).alloc o3).alloc o4) := by
  have := h.size
  exact (((h.alloc h.size _).alloc (by simp; omega) _).alloc (by simp; omega) _).alloc (by simp; omega) _

set_option maxHeartbeats 400000 in
theorem new_any (w : World) : Calls Try.prog 13 #[] w fun e w' => ∃ be bo bl bw, e = .returned (.pointer (some ⟨be, 0, none⟩)) ∧ Fresh false w.heap.size w' be bo bl bw ∧ Below w.heap.size w w' := by
  have hmm := @run_makeMap Try.prog
  go_enter Try.func13, Try.ntmps13
  go_wp2
  go_ret
  exact ⟨_, _, _, _, rfl, fresh_laid false w (.slice none 0 0) (.slice none 0 0) w.heap.size (Nat.le_refl _) (fun _ => rfl) (fun e => by cases e), below4 w w (Below.refl _ _) _ _ _ _⟩

theorem info27 : (Try.prog.info? 27).map (fun i => (i.zero, i.size, i.bytes)) = some (some (.int .u64 0), 1, 8) := by kernel_rfl

set_option maxHeartbeats 1000000 in
theorem newOne_any (a b : Int) (w : World) : Calls Try.prog 21 #[.int .u64 a, .int .u32 b] w fun e w' => ∃ be bo bl bw, e = .returned (.pointer (some ⟨be, 0, none⟩)) ∧ Fresh true w.heap.size w' be bo bl bw ∧ Below w.heap.size w w' := by
  have hmm := @run_makeMap Try.prog
  obtain ⟨i0, hi, hz0, hz1, hz2⟩ := info_parts info27
  go_enter Try.func21, Try.ntmps21
  go_wp2_with (at_make; refine wpList_make_full _ rfl _ _ 22 rfl w.heap.size 27 i0 (.int .u64 0) 1 Try.underlying22 hi hz0 hz1 _ _ _ _ 509 rfl rfl rfl rfl (by rw [hz2]; omega) (by unfold maxLen; omega) (by simp; omega) ?_; intro w1 hown hgrow)
  have hs := hgrow.size
  simp at hs
  have hbel : Below w.heap.size w w1 := ((((Below.refl _ _).alloc (Nat.le_refl _) _).alloc (by simp) _).grown hgrow (by simp; omega) (fun k e => by cases e))
  have hc2 : w1.cell? ⟨w.heap.size + 1, 0, none⟩ = some (.slice (some ⟨w.heap.size, 0, none⟩) 1 1) := hgrow.cell (World.cell?_alloc_at _ _ _ _ (by simp)) (by simp)
  have hF := fresh_laid true (w1.alloc (.cells #[.slice (some ⟨w.heap.size + 1 + 1, 0, none⟩) 509 509] 22)) (.slice (some ⟨w.heap.size + 1, 0, none⟩) 1 1) (.slice (some ⟨w1.heap.size, 0, none⟩) 1 1) w.heap.size (by simp; omega) (fun e => by cases e)
    (fun _ => ⟨_, _, rfl, by rw [World.cell?_alloc_past _ _ _ (by omega)]; exact hc2⟩)
  have hB := below4 w _ (hbel.alloc (by omega) (.cells #[.slice (some ⟨w.heap.size + 1 + 1, 0, none⟩) 509 509] 22)) (.cells #[.slice (some ⟨w.heap.size + 1, 0, none⟩) 1 1, .slice (some ⟨w1.heap.size, 0, none⟩) 1 1] 52) (.map #[] 0) (.map #[] 0)
    (.cells #[.pointer (some ⟨w1.heap.size + 1, 0, none⟩), .slice none 0 0, .map (some (w1.heap.size + 1 + 1)), .map (some (w1.heap.size + 1 + 1 + 1)), .slice none 0 0] 57)
  simp only [World.size_alloc] at hF
  go_ret
  exact ⟨_, _, _, _, rfl, hF, hB⟩

end Go.Proofs.Qxb6612374a

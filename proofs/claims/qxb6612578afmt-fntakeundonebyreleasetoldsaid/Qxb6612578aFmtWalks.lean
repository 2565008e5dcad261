import Derived.Test.Qxb6612578aFmtRows
import Derived.Test.Qxb6612578aFmtLocks
import Derived.WalkKit
import Derived.WalkSpells
import Derived.WalkLawsBesides
import Derived.BigQuiet
import Derived.Deep.QuietTactic
import Derived.Conc.MuLone
namespace Go.Proofs.Qxb6612578aFmt
open Go.RowKit Go.MuLone
set_option linter.unusedVariables false
set_option linter.unusedSimpArgs false

theorem hide {p : Prop} (h : p) : Hid p := h

/-- Block b is a Semaphore of n units, h of them held; its lock is free; nobody waits. -/
structure SemAt (w : World) (b : Nat) (n h : Int) : Prop where
  c0 : w.cell? ⟨b, 0, none⟩ = some (.int .i64 n)
  c1 : w.cell? ⟨b, 1, none⟩ = some (.int .i32 0)
  c3 : w.cell? ⟨b, 3, none⟩ = some (.int .i64 h)
  c4 : w.cell? ⟨b, 4, none⟩ = some (.pointer none)
  c6 : w.cell? ⟨b, 6, none⟩ = some (.int .i64 0)
  f1 : w.frozen? ⟨b, 1, none⟩ = false
  f3 : w.frozen? ⟨b, 3, none⟩ = false

theorem SemAt.below {w w' : World} {b : Nat} {n h : Int} (s : SemAt w b n h) (hb : Below w.heap.size w w') : SemAt w' b n h := by
  have lt := World.block_lt_of_cell? _ _ s.c0
  refine ⟨?_, ?_, ?_, ?_, ?_, ?_, ?_⟩
  · rw [hb.cell (p := ⟨b, 0, none⟩) lt]; exact s.c0
  · rw [hb.cell (p := ⟨b, 1, none⟩) lt]; exact s.c1
  · rw [hb.cell (p := ⟨b, 3, none⟩) lt]; exact s.c3
  · rw [hb.cell (p := ⟨b, 4, none⟩) lt]; exact s.c4
  · rw [hb.cell (p := ⟨b, 6, none⟩) lt]; exact s.c6
  · rw [hb.frozen (p := ⟨b, 1, none⟩) lt]; exact s.f1
  · rw [hb.frozen (p := ⟨b, 3, none⟩) lt]; exact s.f3

theorem SemAt.lt {w : World} {b : Nat} {n h : Int} (s : SemAt w b n h) : b < w.heap.size := World.block_lt_of_cell? _ _ s.c0

/-- Another block has turned: this one has not. -/
theorem SemAt.kept {w w' : World} {b c : Nat} {n h : Int} (s : SemAt w b n h) (hg : w.grownBy w' (some c)) (hne : b ≠ c) : SemAt w' b n h := by
  have lt := s.lt
  have hb : w'.heap[b]? = w.heap[b]? := hg.block b lt (fun e => hne (by cases e; rfl))
  have hc : ∀ o, w'.cell? ⟨b, o, none⟩ = w.cell? ⟨b, o, none⟩ := fun o => World.cell?_of_block (w := w) hb
  have hf : ∀ o, w'.frozen? ⟨b, o, none⟩ = w.frozen? ⟨b, o, none⟩ := fun o => World.frozen?_of_block (w := w) hb
  exact ⟨by rw [hc]; exact s.c0, by rw [hc]; exact s.c1, by rw [hc]; exact s.c3, by rw [hc]; exact s.c4, by rw [hc]; exact s.c6, by rw [hf]; exact s.f1, by rw [hf]; exact s.f3⟩

theorem SemAt.drewN {w : World} {b : Nat} {n h : Int} (s : SemAt w b n h) (k : Nat) : SemAt (w.drewN k) b n h := s.below (below_drewN (Below.refl _ _) k)

theorem grown_setCell (w : World) (b o : Nat) (v : Value) : w.grownBy (w.setCell ⟨b, o, none⟩ v) (some b) :=
  ⟨rfl, rfl, rfl, by simp, fun k _ hk => Below.heap_setCell _ _ _ _ (fun e => hk (by rw [e]))⟩
theorem grown_drewN (w : World) (k : Nat) (r : Option Nat) : w.grownBy (w.drewN k) r := ⟨rfl, rfl, rfl, Nat.le_refl _, fun _ _ _ => rfl⟩
theorem grown_refl (w : World) (r : Option Nat) : w.grownBy w r := ⟨rfl, rfl, rfl, Nat.le_refl _, fun _ _ _ => rfl⟩

/-- 'held' is written. -/
theorem SemAt.put {w : World} {b : Nat} {n h : Int} (s : SemAt w b n h) (h' : Int) : SemAt (w.setCell ⟨b, 3, none⟩ (.int .i64 h')) b n h' := by
  refine ⟨?_, ?_, World.cell?_setCell_same _ _ _ s.c3, ?_, ?_, by simpa using s.f1, by simpa using s.f3⟩
  · rw [World.cell?_setCell_other _ _ _ _ (by simp)]; exact s.c0
  · rw [World.cell?_setCell_other _ _ _ _ (by simp)]; exact s.c1
  · rw [World.cell?_setCell_other _ _ _ _ (by simp)]; exact s.c4
  · rw [World.cell?_setCell_other _ _ _ _ (by simp)]; exact s.c6

theorem new_any (n : Int) (w : World) (hn : 0 ≤ n) : Calls Tryf.prog 5 #[.int .i64 n] w fun e w' => e = .returned (.pointer (some ⟨w.heap.size, 0, none⟩)) ∧ w' = w.alloc (.cells #[.int .i64 n, .int .i32 0, .int .u32 0, .int .i64 0, .pointer none, .pointer none, .int .i64 0] 42) := by
  go_enter Tryf.func5, Tryf.ntmps5
  go_wp2
  go_ret
  exact ⟨rfl, rfl⟩

theorem SemAt_new (n : Int) (w : World) : SemAt (w.alloc (.cells #[.int .i64 n, .int .i32 0, .int .u32 0, .int .i64 0, .pointer none, .pointer none, .int .i64 0] 42)) w.heap.size n 0 := by
  refine ⟨by simp, by simp, by simp, by simp, by simp, by simp, by simp⟩

theorem check_any (s : ByteArray) (k : Int) (w : World) (hk : 0 ≤ k) : Calls Tryf.prog 11 #[.string s, .int .i64 k] w fun e w' => e = .returned (.tuple #[]) ∧ w' = w := by
  go_enter Tryf.func11, Tryf.ntmps11
  go_wp2
  go_end0
  exact ⟨rfl, rfl⟩

/-- 'take' where k units are free. -/
theorem take_yes (b : Nat) (n h k : Int) (w : World) (c0 : w.cell? ⟨b, 0, none⟩ = some (.int .i64 n)) (c3 : w.cell? ⟨b, 3, none⟩ = some (.int .i64 h)) (c6 : w.cell? ⟨b, 6, none⟩ = some (.int .i64 0)) (f3 : w.frozen? ⟨b, 3, none⟩ = false)
    (h0 : 0 ≤ h) (hn : h ≤ n) (hm : n ≤ 9223372036854775807) (hk : 0 ≤ k) (hf : k ≤ n - h) :
    Calls Tryf.prog 14 #[.pointer (some ⟨b, 0, none⟩), .int .i64 k] w fun e w' => e = .returned (.bool true) ∧ ∃ q, w' = (w.setCell ⟨b, 3, none⟩ (.int .i64 (h + k))).drewN q := by
  go_enter Tryf.func14, Tryf.ntmps14
  go_wp2
  go_quiet (fail)
  go_wp2
  go_ret
  exact ⟨rfl, _, rfl⟩

theorem take_no (b : Nat) (n h k : Int) (w : World) (c0 : w.cell? ⟨b, 0, none⟩ = some (.int .i64 n)) (c3 : w.cell? ⟨b, 3, none⟩ = some (.int .i64 h)) (c6 : w.cell? ⟨b, 6, none⟩ = some (.int .i64 0))
    (h0 : 0 ≤ h) (hn : h ≤ n) (hm : n ≤ 9223372036854775807) (hk : 0 ≤ k) (hf : n - h < k) :
    Calls Tryf.prog 14 #[.pointer (some ⟨b, 0, none⟩), .int .i64 k] w fun e w' => e = .returned (.bool false) ∧ ∃ q, w' = w.drewN q := by
  go_enter Tryf.func14, Tryf.ntmps14
  go_wp2
  go_quiet (fail)
  go_wp2
  go_ret
  exact ⟨rfl, _, rfl⟩

end Go.Proofs.Qxb6612578aFmt

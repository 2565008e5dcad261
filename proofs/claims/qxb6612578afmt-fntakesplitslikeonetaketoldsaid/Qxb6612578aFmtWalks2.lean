import Derived.Test.Qxb6612578aFmtWalks
namespace Go.Proofs.Qxb6612578aFmt
open Go.RowKit Go.MuLone
set_option linter.unusedVariables false
set_option linter.unusedSimpArgs false

theorem ztake_yes (b : Nat) (n h k : Int) (w : World) (s : SemAt w b n h) (h0 : 0 ≤ h) (hn : h ≤ n) (hm : n ≤ 9223372036854775807) (hk : 0 ≤ k) (hf : k ≤ n - h) :
    Calls Tryf.prog 7 #[.pointer (some ⟨b, 0, none⟩), .int .i64 k] w fun e w' => e = .returned (.bool true) ∧ SemAt w' b n (h + k) ∧ w.grownBy w' (some b) := by
  have S := hide s
  clear s
  go_enter Tryf.func7, Tryf.ntmps7
  go_wp2_with (go_at_call 14; refine (take_yes b n h k _ S.out.c0 S.out.c3 S.out.c6 S.out.f3 h0 hn hm hk hf).mono ?_; rintro e w' ⟨rfl, q, rfl⟩)
  go_ret
  exact ⟨rfl, (S.out.put _).drewN _, (grown_setCell _ _ _ _).trans (grown_drewN _ _ _)⟩

theorem ztake_no (b : Nat) (n h k : Int) (w : World) (s : SemAt w b n h) (h0 : 0 ≤ h) (hn : h ≤ n) (hm : n ≤ 9223372036854775807) (hk : 0 ≤ k) (hf : n - h < k) :
    Calls Tryf.prog 7 #[.pointer (some ⟨b, 0, none⟩), .int .i64 k] w fun e w' => e = .returned (.bool false) ∧ SemAt w' b n h ∧ w.grownBy w' (some b) := by
  have S := hide s
  clear s
  go_enter Tryf.func7, Tryf.ntmps7
  go_wp2_with (go_at_call 14; refine (take_no b n h k _ S.out.c0 S.out.c3 S.out.c6 h0 hn hm hk hf).mono ?_; rintro e w' ⟨rfl, q, rfl⟩)
  go_ret
  exact ⟨rfl, S.out.drewN _, grown_drewN _ _ _⟩

theorem zheld (b : Nat) (n h : Int) (w : World) (s : SemAt w b n h) :
    Calls Tryf.prog 8 #[.pointer (some ⟨b, 0, none⟩)] w fun e w' => e = .returned (.int .i64 h) ∧ w' = w := by
  have c3 := s.c3
  clear s
  go_enter Tryf.func8, Tryf.ntmps8
  go_wp2
  go_ret
  exact ⟨rfl, rfl⟩

/-- The lock's word is written. -/
theorem SemAt.lockUnlock {w : World} {b : Nat} {n h h' : Int} (s : SemAt w b n h) (q : Nat) : SemAt ((((w.setCell ⟨b, 1, none⟩ (.int .i32 1)).setCell ⟨b, 3, none⟩ (.int .i64 h')).drewN q).setCell ⟨b, 1, none⟩ (.int .i32 0)) b n h' := by
  have e1 : ∀ o, o ≠ 1 → o ≠ 3 → ((((w.setCell ⟨b, 1, none⟩ (.int .i32 1)).setCell ⟨b, 3, none⟩ (.int .i64 h')).drewN q).setCell ⟨b, 1, none⟩ (.int .i32 0)).cell? ⟨b, o, none⟩ = w.cell? ⟨b, o, none⟩ := by
    intro o h1 h3
    rw [World.cell?_setCell_other _ _ _ _ (by simp)]
    show ((w.setCell ⟨b, 1, none⟩ (.int .i32 1)).setCell ⟨b, 3, none⟩ (.int .i64 h')).cell? ⟨b, o, none⟩ = _
    rw [World.cell?_setCell_other _ _ _ _ (by simp), World.cell?_setCell_other _ _ _ _ (by simp)]
  have g1 : ((w.setCell ⟨b, 1, none⟩ (.int .i32 1)).setCell ⟨b, 3, none⟩ (.int .i64 h')).cell? ⟨b, 1, none⟩ = some (.int .i32 1) := by
    rw [World.cell?_setCell_other _ _ _ _ (by simp)]
    exact World.cell?_setCell_same _ _ _ s.c1
  have g3 : ((w.setCell ⟨b, 1, none⟩ (.int .i32 1)).setCell ⟨b, 3, none⟩ (.int .i64 h')).cell? ⟨b, 3, none⟩ = some (.int .i64 h') :=
    World.cell?_setCell_same _ _ _ (by rw [World.cell?_setCell_other _ _ _ _ (by simp)]; exact s.c3)
  refine ⟨?_, ?_, ?_, ?_, ?_, ?_, ?_⟩
  · rw [e1 0 (by omega) (by omega)]; exact s.c0
  · exact World.cell?_setCell_same _ _ _ (u := .int .i32 1) g1
  · rw [World.cell?_setCell_other _ _ _ _ (by simp)]; exact g3
  · rw [e1 4 (by omega) (by omega)]; exact s.c4
  · rw [e1 6 (by omega) (by omega)]; exact s.c6
  · rw [World.frozen?_setCell]
    show ((w.setCell ⟨b, 1, none⟩ (.int .i32 1)).setCell ⟨b, 3, none⟩ (.int .i64 h')).frozen? ⟨b, 1, none⟩ = false
    rw [World.frozen?_setCell, World.frozen?_setCell]; exact s.f1
  · rw [World.frozen?_setCell]
    show ((w.setCell ⟨b, 1, none⟩ (.int .i32 1)).setCell ⟨b, 3, none⟩ (.int .i64 h')).frozen? ⟨b, 3, none⟩ = false
    rw [World.frozen?_setCell, World.frozen?_setCell]; exact s.f3

set_option maxHeartbeats 400000 in
theorem try_yes (b : Nat) (n h k : Int) (w : World) (s : SemAt w b n h) (h0 : 0 ≤ h) (hn : h ≤ n) (hm : n ≤ 9223372036854775807) (hk : 0 ≤ k) (hf : k ≤ n - h) :
    Calls Tryf.prog 6 #[.pointer (some ⟨b, 0, none⟩), .int .i64 k] w fun e w' => e = .returned (.bool true) ∧ SemAt w' b n (h + k) ∧ w.grownBy w' (some b) := by
  have S := hide s
  clear s
  go_enter_defers Tryf.func6, Tryf.ntmps6
  go_wp2_with fail
  refine (check_any _ k _ hk).mono ?_
  rintro e w' ⟨rfl, rfl⟩
  go_wp2_with fail
  refine (lock_free muLib ⟨b, 1, none⟩ _ S.out.c1 S.out.f1).mono ?_
  rintro e w1 ⟨rfl, rfl⟩
  go_wp2_with fail
  refine (take_yes b n h k _ ?_ ?_ ?_ ?_ h0 hn hm hk hf).mono ?_
  · rw [World.cell?_setCell_other _ _ _ _ (by simp)]; exact S.out.c0
  · rw [World.cell?_setCell_other _ _ _ _ (by simp)]; exact S.out.c3
  · rw [World.cell?_setCell_other _ _ _ _ (by simp)]; exact S.out.c6
  · rw [World.frozen?_setCell]; exact S.out.f3
  rintro e w2 ⟨rfl, q, rfl⟩
  go_wp2_with fail
  refine leaves_cons (f := 13) (args := #[.pointer (some ⟨b, 1, none⟩)]) (by simp) (by simp [go_sem]) ?_
  refine (unlock_deferred muLib ⟨b, 1, none⟩ .returning _ ?_ ?_).mono ?_
  · show ((w'.setCell ⟨b, 1, none⟩ (.int .i32 1)).setCell ⟨b, 3, none⟩ (.int .i64 (h + k))).cell? ⟨b, 1, none⟩ = some (.int .i32 1)
    rw [World.cell?_setCell_other _ _ _ _ (by simp)]
    exact World.cell?_setCell_same _ _ _ S.out.c1
  · show ((w'.setCell ⟨b, 1, none⟩ (.int .i32 1)).setCell ⟨b, 3, none⟩ (.int .i64 (h + k))).frozen? ⟨b, 1, none⟩ = false
    rw [World.frozen?_setCell, World.frozen?_setCell]; exact S.out.f1
  rintro e u' w'' ⟨rfl, rfl, rfl⟩
  exact ⟨_, results_tmp rfl _ _ _, rfl, S.out.lockUnlock q, (((grown_setCell _ _ _ _).trans (grown_setCell _ _ _ _)).trans (grown_drewN _ _ _)).trans (grown_setCell _ _ _ _)⟩

set_option maxHeartbeats 400000 in
/-- Nobody waits: 'serve' turns nothing. -/
theorem serve_none (b : Nat) (w : World) (c4 : w.cell? ⟨b, 4, none⟩ = some (.pointer none)) :
    Calls Tryf.prog 15 #[.pointer (some ⟨b, 0, none⟩)] w fun e w' => e = .returned (.tuple #[]) ∧ ∃ q, w' = w.drewN q := by
  go_enter Tryf.func15, Tryf.ntmps15
  go_wp2_with fail
  refine wp_loop_rounds 1 ?_
  rw [rounds_succ]
  go_wp2_with fail
  go_quiet (fail)
  go_wp2_with fail
  go_end0
  exact ⟨rfl, _, rfl⟩

theorem drewN_setCell (w : World) (q : Nat) (a : Addr) (v : Value) : (w.drewN q).setCell a v = (w.setCell a v).drewN q := rfl

set_option maxHeartbeats 400000 in
theorem release_any (b : Nat) (n h k : Int) (w : World) (s : SemAt w b n h) (h0 : 0 ≤ h) (hn : h ≤ n) (hm : n ≤ 9223372036854775807) (hk : 0 ≤ k) (hf : k ≤ h) :
    Calls Tryf.prog 9 #[.pointer (some ⟨b, 0, none⟩), .int .i64 k] w fun e w' => e = .returned (.tuple #[]) ∧ SemAt w' b n (h - k) ∧ w.grownBy w' (some b) := by
  have S := hide s
  clear s
  go_enter_defers Tryf.func9, Tryf.ntmps9
  go_wp2_with fail
  refine (check_any _ k _ hk).mono ?_
  rintro e w' ⟨rfl, rfl⟩
  go_wp2_with fail
  refine (lock_free muLib ⟨b, 1, none⟩ _ S.out.c1 S.out.f1).mono ?_
  rintro e w1 ⟨rfl, hw1⟩
  have c3 : w1.cell? ⟨b, 3, none⟩ = some (.int .i64 h) := by
    rw [hw1, World.cell?_setCell_other _ _ _ _ (by simp)]; exact S.out.c3
  have f3 : w1.frozen? ⟨b, 3, none⟩ = false := by rw [hw1, World.frozen?_setCell]; exact S.out.f3
  have HW := hide hw1
  clear hw1
  go_wp2_with fail
  refine (serve_none b _ ?_).mono ?_
  · rw [World.cell?_setCell_other _ _ _ _ (by simp), HW.out, World.cell?_setCell_other _ _ _ _ (by simp)]; exact S.out.c4
  rintro e w2 ⟨rfl, q, rfl⟩
  rw [HW.out]
  go_wp2_with fail
  refine leaves_cons (f := 13) (args := #[.pointer (some ⟨b, 1, none⟩)]) (by simp) (by simp [go_sem]) ?_
  refine (unlock_deferred muLib ⟨b, 1, none⟩ .returning _ ?_ ?_).mono ?_
  · show ((w'.setCell ⟨b, 1, none⟩ (.int .i32 1)).setCell ⟨b, 3, none⟩ (.int .i64 (h - k))).cell? ⟨b, 1, none⟩ = some (.int .i32 1)
    rw [World.cell?_setCell_other _ _ _ _ (by simp)]
    exact World.cell?_setCell_same _ _ _ S.out.c1
  · show ((w'.setCell ⟨b, 1, none⟩ (.int .i32 1)).setCell ⟨b, 3, none⟩ (.int .i64 (h - k))).frozen? ⟨b, 1, none⟩ = false
    rw [World.frozen?_setCell, World.frozen?_setCell]; exact S.out.f1
  rintro e u' w'' ⟨rfl, rfl, rfl⟩
  exact ⟨_, results_none rfl _ _ _, rfl, S.out.lockUnlock q, (((grown_setCell _ _ _ _).trans (grown_setCell _ _ _ _)).trans (grown_drewN _ _ _)).trans (grown_setCell _ _ _ _)⟩

end Go.Proofs.Qxb6612578aFmt

import Derived.Test.Qxb6612578aFmtSplits
namespace Go.Proofs.Qxb6612578aFmt
open Go.RowKit Go.MuLone
set_option linter.unusedVariables false
set_option linter.unusedSimpArgs false

/-- One new semaphore, the block w0.heap.size. -/
structure One (w0 w : World) (n h : Int) : Prop where
  s : SemAt w w0.heap.size n h
  bel : Below w0.heap.size w0 w

theorem One.next {w0 w w' : World} {n h k : Int} (t : One w0 w n h) (s : SemAt w' w0.heap.size n k) (g : w.grownBy w' (some w0.heap.size)) : One w0 w' n k :=
  ⟨s, t.bel.trans (below_of_grown g (Nat.le_refl _) t.bel.size)⟩

set_option maxHeartbeats 2000000 in
theorem undone_main (n h k : Int) (w : World) (hn : 0 ≤ n) (hm : n ≤ 9223372036854775807) (h0 : 0 ≤ h) (hh : h ≤ n) (hk : 0 ≤ k) (hkm : k ≤ 9223372036854775807) :
    Calls Tryf.prog 4 #[.int .i64 n, .int .i64 h, .int .i64 k] w fun e w' => e = .returned (.bool true) ∧ Below w.heap.size w w' := by
  go_enter Tryf.func4, Tryf.ntmps4
  go_wp2_with fail
  refine (new_any n _ hn).mono ?_
  rintro e w1 ⟨rfl, hw1⟩
  have t1 : One w w1 n 0 := by rw [hw1]; exact ⟨SemAt_new _ _, (Below.refl _ _).alloc (Nat.le_refl _) _⟩
  have T1 := hide t1
  clear t1 hw1
  go_wp2_with fail
  refine (try_yes w.heap.size n 0 h w1 T1.out.s (by omega) hn hm h0 (by omega)).mono ?_
  rintro e w2 ⟨rfl, s2, g2⟩
  rw [Int.zero_add] at s2
  have T2 := hide (T1.out.next s2 g2)
  clear s2 g2 T1
  by_cases c : k ≤ n - h
  · go_wp2_with fail
    refine (ztake_yes w.heap.size n h k w2 T2.out.s h0 hh hm hk c).mono ?_
    rintro e w3 ⟨rfl, s3, g3⟩
    have T3 := hide (T2.out.next s3 g3)
    clear s3 g3
    go_wp2_with fail
    refine (zheld w.heap.size n _ w3 T3.out.s).mono ?_
    rintro e w4 ⟨rfl, rfl⟩
    go_wp2_with fail
    refine (release_any w.heap.size n (h + k) k w4 T3.out.s (by omega) (by omega) hm hk (by omega)).mono ?_
    rintro e w5 ⟨rfl, s5, g5⟩
    rw [show h + k - k = h by omega] at s5
    have T5 := hide (T3.out.next s5 g5)
    clear s5 g5
    go_wp2_with fail
    refine (zheld w.heap.size n _ w5 T5.out.s).mono ?_
    rintro e w6 ⟨rfl, rfl⟩
    go_wp2_with fail
    refine (ztake_yes w.heap.size n h k w6 T5.out.s h0 hh hm hk c).mono ?_
    rintro e w7 ⟨rfl, s7, g7⟩
    have T7 := hide (T5.out.next s7 g7)
    clear s7 g7
    go_wp2_with fail
    refine (zheld w.heap.size n _ w7 T7.out.s).mono ?_
    rintro e w8 ⟨rfl, rfl⟩
    go_wp2_with fail
    go_ret
    exact ⟨rfl, T7.out.bel⟩
  · have c' : n - h < k := by omega
    have d : decide (k ≤ n - h) = false := by simp; omega
    go_wp2_with fail
    refine (ztake_no w.heap.size n h k w2 T2.out.s h0 hh hm hk c').mono ?_
    rintro e w3 ⟨rfl, s3, g3⟩
    have T3 := hide (T2.out.next s3 g3)
    clear s3 g3
    go_wp2_with fail
    refine (zheld w.heap.size n _ w3 T3.out.s).mono ?_
    rintro e w4 ⟨rfl, rfl⟩
    go_wp2_with fail
    refine (zheld w.heap.size n _ w4 T3.out.s).mono ?_
    rintro e w6 ⟨rfl, rfl⟩
    go_wp2_with fail
    refine (ztake_no w.heap.size n h k w6 T3.out.s h0 hh hm hk c').mono ?_
    rintro e w7 ⟨rfl, s7, g7⟩
    have T7 := hide (T3.out.next s7 g7)
    clear s7 g7
    go_wp2_with fail
    refine (zheld w.heap.size n _ w7 T7.out.s).mono ?_
    rintro e w8 ⟨rfl, rfl⟩
    go_wp2_with fail
    go_ret
    exact ⟨rfl, T7.out.bel⟩

set_option maxHeartbeats 1000000 in
theorem undone_walk (n h k : Int) (w : World) (nl : -9223372036854775808 ≤ n) (nm : n ≤ 9223372036854775807) (hl : -9223372036854775808 ≤ h) (hm : h ≤ 9223372036854775807) (kl : -9223372036854775808 ≤ k) (km : k ≤ 9223372036854775807) :
    Calls Tryf.prog 4 #[.int .i64 n, .int .i64 h, .int .i64 k] w fun e w' => e = .returned (.bool true) ∧ Below w.heap.size w w' := by
  by_cases c1 : n < 0
  · go_enter Tryf.func4, Tryf.ntmps4
    go_wp2_with fail
    go_ret
    exact ⟨rfl, Below.refl _ _⟩
  by_cases c2 : h < 0
  · go_enter Tryf.func4, Tryf.ntmps4
    go_wp2_with fail
    go_ret
    exact ⟨rfl, Below.refl _ _⟩
  by_cases c3 : n < h
  · go_enter Tryf.func4, Tryf.ntmps4
    go_wp2_with fail
    go_ret
    exact ⟨rfl, Below.refl _ _⟩
  by_cases c4 : k < 0
  · go_enter Tryf.func4, Tryf.ntmps4
    go_wp2_with fail
    go_ret
    exact ⟨rfl, Below.refl _ _⟩
  exact undone_main n h k w (by omega) nm (by omega) (by omega) (by omega) km

end Go.Proofs.Qxb6612578aFmt

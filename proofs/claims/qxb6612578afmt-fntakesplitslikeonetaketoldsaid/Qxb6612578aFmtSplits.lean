import Derived.Test.Qxb6612578aFmtWalks2
namespace Go.Proofs.Qxb6612578aFmt
open Go.RowKit Go.MuLone
set_option linter.unusedVariables false
set_option linter.unusedSimpArgs false

theorem below_of_grown {B b : Nat} {w w' : World} (h : w.grownBy w' (some b)) (hb : B ≤ b) (hB : B ≤ w.heap.size) : Below B w w' :=
  (Below.refl B w).grown h hB (fun k e => by cases e; exact hb)

/-- Two new semaphores, h units of each taken: the blocks w.heap.size and w.heap.size + 1. -/
structure Two (w0 w : World) (n h1 h2 : Int) : Prop where
  s1 : SemAt w w0.heap.size n h1
  s2 : SemAt w (w0.heap.size + 1) n h2
  bel : Below w0.heap.size w0 w

theorem Two.first {w0 w w' : World} {n h1 h2 k : Int} (t : Two w0 w n h1 h2) (s : SemAt w' w0.heap.size n k) (g : w.grownBy w' (some w0.heap.size)) : Two w0 w' n k h2 :=
  ⟨s, t.s2.kept g (by omega), t.bel.trans (below_of_grown g (Nat.le_refl _) t.bel.size)⟩
theorem Two.second {w0 w w' : World} {n h1 h2 k : Int} (t : Two w0 w n h1 h2) (s : SemAt w' (w0.heap.size + 1) n k) (g : w.grownBy w' (some (w0.heap.size + 1))) : Two w0 w' n h1 k :=
  ⟨t.s1.kept g (by omega), s, t.bel.trans (below_of_grown g (Nat.le_succ _) t.bel.size)⟩

set_option maxHeartbeats 2000000 in
theorem splits_main (n h a b : Int) (w : World) (hn : 0 ≤ n) (hm : n ≤ 9223372036854775807) (h0 : 0 ≤ h) (hh : h ≤ n) (ha : 0 ≤ a) (ham : a ≤ 9223372036854775807) (hb : 0 ≤ b) (hbm : b ≤ 9223372036854775807) (hab : a ≤ 9223372036854775807 - b) :
    Calls Tryf.prog 3 #[.int .i64 n, .int .i64 h, .int .i64 a, .int .i64 b] w fun e w' => e = .returned (.bool true) ∧ Below w.heap.size w w' := by
  go_enter Tryf.func3, Tryf.ntmps3
  go_wp2_with fail
  refine (new_any n _ hn).mono ?_
  rintro e w1 ⟨rfl, hw1⟩
  have s1 : SemAt w1 w.heap.size n 0 := by rw [hw1]; exact SemAt_new _ _
  have b1 : Below w.heap.size w w1 := by rw [hw1]; exact (Below.refl _ _).alloc (Nat.le_refl _) _
  have z1 : w1.heap.size = w.heap.size + 1 := by rw [hw1]; simp
  have S1 := hide s1
  have B1 := hide b1
  have Z1 := hide z1
  clear s1 b1 z1 hw1
  go_wp2_with fail
  refine (new_any n _ hn).mono ?_
  rintro e w2 ⟨rfl, hw2⟩
  rw [Z1.out]
  have t2 : Two w w2 n 0 0 := by
    have e1 : Below w1.heap.size w1 w2 := by rw [hw2]; exact (Below.refl _ _).alloc (Nat.le_refl _) _
    refine ⟨S1.out.below e1, ?_, B1.out.trans (e1.mono B1.out.size)⟩
    have := SemAt_new n w1
    rw [← hw2, Z1.out] at this
    exact this
  have T2 := hide t2
  clear t2 hw2
  go_wp2_with fail
  refine (try_yes w.heap.size n 0 h w2 T2.out.s1 (by omega) hn hm h0 (by omega)).mono ?_
  rintro e w3 ⟨rfl, s3, g3⟩
  rw [Int.zero_add] at s3
  have T3 := hide (T2.out.first s3 g3)
  clear s3 g3 T2
  go_wp2_with fail
  refine (try_yes (w.heap.size + 1) n 0 h w3 T3.out.s2 (by omega) hn hm h0 (by omega)).mono ?_
  rintro e w4 ⟨rfl, s4, g4⟩
  rw [Int.zero_add] at s4
  have T4 := hide (T3.out.second s4 g4)
  clear s4 g4 T3
  by_cases cA : a ≤ n - h
  · by_cases cB : b ≤ n - h - a
    · have cAB : a + b ≤ n - h := by omega
      go_wp2_with fail
      refine (ztake_yes w.heap.size n h a w4 T4.out.s1 h0 hh hm ha (by omega)).mono ?_
      rintro e w5 ⟨rfl, s5, g5⟩
      have T5 := hide (T4.out.first s5 g5)
      clear s5 g5
      go_wp2_with fail
      refine (ztake_yes w.heap.size n (h + a) b w5 T5.out.s1 (by omega) (by omega) hm hb (by omega)).mono ?_
      rintro e w6 ⟨rfl, s6, g6⟩
      have T6 := hide (T5.out.first s6 g6)
      clear s6 g6
      go_wp2_with fail
      refine (ztake_yes (w.heap.size + 1) n h (a + b) w6 T6.out.s2 h0 hh hm (by omega) (by omega)).mono ?_
      rintro e w7 ⟨rfl, s7, g7⟩
      have T7 := hide (T6.out.second s7 g7)
      clear s7 g7
      go_wp2_with fail
      refine (zheld w.heap.size n _ w7 T7.out.s1).mono ?_
      rintro e w8 ⟨rfl, rfl⟩
      go_wp2_with fail
      refine (zheld (w.heap.size + 1) n _ w8 T7.out.s2).mono ?_
      rintro e w9 ⟨rfl, rfl⟩
      go_wp2_with fail
      go_ret
      exact ⟨rfl, T7.out.bel⟩
    · have cAB : n - h < a + b := by omega
      have cB' : n - h - a < b := by omega
      have dB : decide (b ≤ n - h - a) = false := by simp; omega
      have dAB : decide (a + b ≤ n - h) = false := by simp; omega
      go_wp2_with fail
      refine (ztake_yes w.heap.size n h a w4 T4.out.s1 h0 hh hm ha (by omega)).mono ?_
      rintro e w5 ⟨rfl, s5, g5⟩
      have T5 := hide (T4.out.first s5 g5)
      clear s5 g5
      go_wp2_with fail
      refine (ztake_no w.heap.size n (h + a) b w5 T5.out.s1 (by omega) (by omega) hm hb (by omega)).mono ?_
      rintro e w6 ⟨rfl, s6, g6⟩
      have T6 := hide (T5.out.first s6 g6)
      clear s6 g6
      go_wp2_with fail
      refine (ztake_no (w.heap.size + 1) n h (a + b) w6 T6.out.s2 h0 hh hm (by omega) (by omega)).mono ?_
      rintro e w7 ⟨rfl, s7, g7⟩
      have T7 := hide (T6.out.second s7 g7)
      clear s7 g7
      go_wp2_with fail
      refine (zheld w.heap.size n _ w7 T7.out.s1).mono ?_
      rintro e w8 ⟨rfl, rfl⟩
      go_wp2_with fail
      refine (zheld (w.heap.size + 1) n _ w8 T7.out.s2).mono ?_
      rintro e w9 ⟨rfl, rfl⟩
      go_wp2_with fail
      go_ret
      exact ⟨rfl, T7.out.bel⟩
  · have cA' : n - h < a := by omega
    have cAB : n - h < a + b := by omega
    have dA : decide (a ≤ n - h) = false := by simp; omega
    have dAB : decide (a + b ≤ n - h) = false := by simp; omega
    by_cases cB : b ≤ n - h
    · skip
      go_wp2_with fail
      refine (ztake_no w.heap.size n h a w4 T4.out.s1 h0 hh hm ha (by omega)).mono ?_
      rintro e w5 ⟨rfl, s5, g5⟩
      have T5 := hide (T4.out.first s5 g5)
      clear s5 g5
      go_wp2_with fail
      refine (ztake_yes w.heap.size n h b w5 T5.out.s1 (by omega) (by omega) hm hb (by omega)).mono ?_
      rintro e w6 ⟨rfl, s6, g6⟩
      have T6 := hide (T5.out.first s6 g6)
      clear s6 g6
      go_wp2_with fail
      refine (ztake_no (w.heap.size + 1) n h (a + b) w6 T6.out.s2 h0 hh hm (by omega) (by omega)).mono ?_
      rintro e w7 ⟨rfl, s7, g7⟩
      have T7 := hide (T6.out.second s7 g7)
      clear s7 g7
      go_wp2_with fail
      refine (zheld w.heap.size n _ w7 T7.out.s1).mono ?_
      rintro e w8 ⟨rfl, rfl⟩
      go_wp2_with fail
      refine (zheld (w.heap.size + 1) n _ w8 T7.out.s2).mono ?_
      rintro e w9 ⟨rfl, rfl⟩
      go_wp2_with fail
      go_ret
      exact ⟨rfl, T7.out.bel⟩
    · have cB' : n - h < b := by omega
      have dB : decide (b ≤ n - h) = false := by simp; omega
      go_wp2_with fail
      refine (ztake_no w.heap.size n h a w4 T4.out.s1 h0 hh hm ha (by omega)).mono ?_
      rintro e w5 ⟨rfl, s5, g5⟩
      have T5 := hide (T4.out.first s5 g5)
      clear s5 g5
      go_wp2_with fail
      refine (ztake_no w.heap.size n h b w5 T5.out.s1 (by omega) (by omega) hm hb (by omega)).mono ?_
      rintro e w6 ⟨rfl, s6, g6⟩
      have T6 := hide (T5.out.first s6 g6)
      clear s6 g6
      go_wp2_with fail
      refine (ztake_no (w.heap.size + 1) n h (a + b) w6 T6.out.s2 h0 hh hm (by omega) (by omega)).mono ?_
      rintro e w7 ⟨rfl, s7, g7⟩
      have T7 := hide (T6.out.second s7 g7)
      clear s7 g7
      go_wp2_with fail
      refine (zheld w.heap.size n _ w7 T7.out.s1).mono ?_
      rintro e w8 ⟨rfl, rfl⟩
      go_wp2_with fail
      refine (zheld (w.heap.size + 1) n _ w8 T7.out.s2).mono ?_
      rintro e w9 ⟨rfl, rfl⟩
      go_wp2_with fail
      go_ret
      exact ⟨rfl, T7.out.bel⟩

set_option maxHeartbeats 1000000 in
theorem splits_walk (n h a b : Int) (w : World) (nl : -9223372036854775808 ≤ n) (nm : n ≤ 9223372036854775807) (hl : -9223372036854775808 ≤ h) (hm : h ≤ 9223372036854775807) (al : -9223372036854775808 ≤ a) (am : a ≤ 9223372036854775807) (bl : -9223372036854775808 ≤ b) (bm : b ≤ 9223372036854775807) :
    Calls Tryf.prog 3 #[.int .i64 n, .int .i64 h, .int .i64 a, .int .i64 b] w fun e w' => e = .returned (.bool true) ∧ Below w.heap.size w w' := by
  by_cases c1 : n < 0
  · go_enter Tryf.func3, Tryf.ntmps3
    go_wp2_with fail
    go_ret
    exact ⟨rfl, Below.refl _ _⟩
  by_cases c2 : h < 0
  · go_enter Tryf.func3, Tryf.ntmps3
    go_wp2_with fail
    go_ret
    exact ⟨rfl, Below.refl _ _⟩
  by_cases c3 : n < h
  · go_enter Tryf.func3, Tryf.ntmps3
    go_wp2_with fail
    go_ret
    exact ⟨rfl, Below.refl _ _⟩
  by_cases c4 : a < 0
  · go_enter Tryf.func3, Tryf.ntmps3
    go_wp2_with fail
    go_ret
    exact ⟨rfl, Below.refl _ _⟩
  by_cases c5 : b < 0
  · go_enter Tryf.func3, Tryf.ntmps3
    go_wp2_with fail
    go_ret
    exact ⟨rfl, Below.refl _ _⟩
  by_cases c6 : 9223372036854775807 - b < a
  · go_enter Tryf.func3, Tryf.ntmps3
    go_wp2_with fail
    go_ret
    exact ⟨rfl, Below.refl _ _⟩
  exact splits_main n h a b w (by omega) nm (by omega) (by omega) (by omega) am (by omega) bm (by omega)

end Go.Proofs.Qxb6612578aFmt

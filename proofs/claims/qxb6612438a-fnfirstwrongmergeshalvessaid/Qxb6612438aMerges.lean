import Derived.Test.Qxb6612438aKeeps
namespace Go.Proofs.Qxb6612438a
open Go.RowKit Plain
set_option linter.unusedVariables false
set_option linter.unusedSimpArgs false

set_option maxHeartbeats 2000000 in
theorem merges_walk (a : Option Addr) (n cap : Nat) (H : Nat → ByteArray) (a' : Option Addr) (n' cap' : Nat) (R : Nat → Bool) (sp : Int) (w : World) (hn : n ≤ maxLen) (hn' : n' ≤ maxLen) (hH : StrsAt w.heap.size w a n H) (hR : BoolsAt w.heap.size w a' n' R) :
    Calls Try.prog 4 #[.slice a n cap, .slice a' n' cap', .int .i64 sp] w fun e w' => e = .returned (.bool true) ∧ Below w.heap.size w w' := by
  have HH : Hid (StrsAt w.heap.size w a n H) := hH
  have HR : Hid (BoolsAt w.heap.size w a' n' R) := hR
  have HB := hn
  have HB' := hn'
  unfold maxLen at HB HB'
  clear hH hR
  go_enter Try.func4, Try.ntmps4
  go_wp2_with fail
  refine (bytesMerges a n cap H a' n' cap' sp w hn hn' HH.out).mono ?_
  rintro e w' ⟨⟨c, rfl⟩, rfl⟩
  cases c with
  | false =>
    go_wp2_with fail
    go_ret
    exact ⟨rfl, Below.refl _ _⟩
  | true =>
    by_cases h1 : n ≤ 65536
    case neg =>
      have h1' : (65536 : Int) < n := by omega
      go_wp2_with fail
      go_ret
      exact ⟨rfl, Below.refl _ _⟩
    by_cases h2 : n' ≤ 65536
    case neg =>
      have h2' : (65536 : Int) < n' := by omega
      go_wp2_with fail
      go_ret
      exact ⟨rfl, Below.refl _ _⟩
    go_wp2_with fail
    refine (hostBytes a n cap H a' n' cap' w' h1 h2 HH.out).mono ?_
    rintro e w'' ⟨⟨t, rfl⟩, rfl⟩
    by_cases ht : t ≤ 1048576
    case neg =>
      have ht' : (1048576 : Int) < t := by omega
      go_wp2_with fail
      go_ret
      exact ⟨rfl, Below.refl _ _⟩
    by_cases hs1 : sp < 0
    · go_wp2_with fail
      go_ret
      exact ⟨rfl, Below.refl _ _⟩
    by_cases hs2 : (n : Int) < sp
    · go_wp2_with fail
      go_ret
      exact ⟨rfl, Below.refl _ _⟩
    obtain ⟨s, rfl⟩ := Int.eq_ofNat_of_zero_le (show 0 ≤ sp by omega)
    have hsn : s ≤ n := by omega
    go_wp2_with fail
    -- whole
    refine (new_any _).mono ?_
    rintro e w1 ⟨rfl, hw1⟩
    have bel1 : Below w''.heap.size w'' w1 := by rw [hw1]; exact (Below.refl _ _).alloc (Nat.le_refl _) _
    have hf1 : FW w1 w''.heap.size none := by rw [hw1]; exact FW_new _
    have hsz1 : w''.heap.size < w1.heap.size := by rw [hw1]; simp
    have HF1 := hide hf1
    have HB1 := hide bel1
    clear hf1 bel1 hw1
    go_wp2_with fail
    refine (feed0 (B := w''.heap.size) w''.heap.size none a n cap H a' n' cap' R n w1 h1 h2 (HH.out.below HB1) (HR.out.below HB1) (Nat.le_refl _) HF1 (Nat.le_refl _) hsz1).mono ?_
    rintro e w2 ⟨rfl, hf2, hg2⟩
    have bel2 : Below w''.heap.size w'' w2 := HB1.out.trans (below_of_grown hg2 (Nat.le_refl _) (by omega))
    have HF2 := hide hf2
    have HB2 := hide bel2
    have hsz2 : w''.heap.size < w2.heap.size := Nat.lt_of_lt_of_le hsz1 hg2.size
    clear hf2 hg2 bel2 HF1 HB1
    go_wp2_with fail
    -- front
    refine (new_any _).mono ?_
    rintro e w3 ⟨rfl, hw3⟩
    have bel3 : Below w2.heap.size w2 w3 := by rw [hw3]; exact (Below.refl _ _).alloc (Nat.le_refl _) _
    have hf3 : FW w3 w2.heap.size none := by rw [hw3]; exact FW_new _
    have hsz3 : w2.heap.size < w3.heap.size := by rw [hw3]; simp
    have HF3 := hide hf3
    have HB3 := hide bel3
    have HB03 := hide (HB2.out.trans (bel3.mono (Nat.le_of_lt hsz2)))
    clear hf3 bel3 hw3
    go_wp2_with fail
    refine (feed0 (B := w''.heap.size) w2.heap.size none a n cap H a' n' cap' R s w3 h1 h2 (HH.out.below HB03.out) (HR.out.below HB03.out) hsn HF3.out (Nat.le_of_lt hsz2) hsz3).mono ?_
    rintro e w4 ⟨rfl, hf4, hg4⟩
    have hsz4 : w2.heap.size < w4.heap.size := Nat.lt_of_lt_of_le hsz3 hg4.size
    have bel4 : Below w2.heap.size w2 w4 := HB3.out.trans (below_of_grown hg4 (Nat.le_refl _) (Nat.le_of_lt hsz3))
    have HW4 := hide (HF2.out.below bel4)
    have HF4 := hide hf4
    have HB4 := hide (HB2.out.trans (bel4.mono (Nat.le_of_lt hsz2)))
    have HX4 := hide bel4
    clear hf4 hg4 bel4 HF3 HB3 HB03
    go_wp2_with fail
    -- back
    refine (new_any _).mono ?_
    rintro e w5 ⟨rfl, hw5⟩
    have bel5 : Below w4.heap.size w4 w5 := by rw [hw5]; exact (Below.refl _ _).alloc (Nat.le_refl _) _
    have hf5 : FW w5 w4.heap.size none := by rw [hw5]; exact FW_new _
    have hsz5 : w4.heap.size < w5.heap.size := by rw [hw5]; simp
    have HF5 := hide hf5
    have HB5 := hide bel5
    have HB05 := hide (HB4.out.trans (bel5.mono (by omega)))
    clear hf5 bel5 hw5
    go_wp2_with fail
    refine (feed_any (B := w''.heap.size) w4.heap.size none a n cap H a' n' cap' R s n w5 h1 h2 (HH.out.below HB05.out) (HR.out.below HB05.out) hsn (Nat.le_refl _) HF5.out (by omega) hsz5).mono ?_
    rintro e w6 ⟨rfl, hf6, hg6⟩
    have bel6 : Below w4.heap.size w4 w6 := HB5.out.trans (below_of_grown hg6 (Nat.le_refl _) (Nat.le_of_lt hsz5))
    have HW6 := hide (HW4.out.below bel6)
    have HF6 := hide (HF4.out.below bel6)
    have HK6 := hide hf6
    have HB6 := hide (HB4.out.trans (bel6.mono (by omega)))
    have HX6 := hide (HX4.out.trans (bel6.mono (by omega)))
    clear hf6 hg6 bel6 HF5 HB5 HB05 HW4 HF4
    go_wp2_with fail
    -- the two merged
    refine (addKept w2.heap.size w4.heap.size _ _ w6 HF6.out HK6.out).mono ?_
    rintro e w7 ⟨rfl, hf7, hg7⟩
    rw [halves R H s (n - s), show s + (n - s) = n by omega] at hf7
    have bel7 : Below w2.heap.size w6 w7 := below_of_grown hg7 (Nat.le_refl _) (by have := HX6.out.size; omega)
    have HX7 := hide (HX6.out.trans bel7)
    have HW7 := hide (HF2.out.below HX7.out)
    have HF7 := hide hf7
    have HB7 := hide (HB6.out.trans (bel7.mono (by omega)))
    clear hf7 hg7 bel7 HK6 HF6 HW6
    generalize hst : feed R H none 0 n = st at HW7 HF7
    have HST := hide hst
    clear hst HF2
    go_wp2_with fail
    refine (leastRefused (B := w''.heap.size) a n cap H a' n' cap' R w7 h1 h2 (HH.out.below HB7.out) (HR.out.below HB7.out)).mono ?_
    rintro e w8 ⟨rfl, rfl⟩
    rw [HST.out]
    unfold ans
    go_wp2_with fail
    refine (held_any w''.heap.size st w8 HW7.out).mono ?_
    rintro e w9 ⟨rfl, nq, rfl⟩
    unfold ans
    go_wp2_with fail
    refine (held_any w2.heap.size st (w8.drewN nq) (HF7.out.below (drewN_below (Below.refl _ _) nq))).mono ?_
    rintro e w10 ⟨rfl, nr, rfl⟩
    unfold ans
    go_wp2_with fail
    go_ret
    exact ⟨rfl, drewN_below HB7.out (nq + nr)⟩

end Go.Proofs.Qxb6612438a

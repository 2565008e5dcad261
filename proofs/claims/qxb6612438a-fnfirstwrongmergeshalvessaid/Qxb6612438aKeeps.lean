import Derived.Test.Qxb6612438aWalks4
namespace Go.Proofs.Qxb6612438a
open Go.RowKit Plain
set_option linter.unusedVariables false
set_option linter.unusedSimpArgs false

theorem hide {p : Prop} (h : p) : Hid p := h

theorem drewN_below {B : Nat} {w w' : World} (h : Below B w w') (n : Nat) : Below B w (w'.drewN n) := below_drewN h n

theorem feed0 {B : Nat} (b : Nat) (st : St) (a : Option Addr) (n cap : Nat) (H : Nat → ByteArray) (a' : Option Addr) (n' cap' : Nat) (R : Nat → Bool) (q : Nat) (w : World) (hn : n ≤ 65536) (hn' : n' ≤ 65536)
    (hH : StrsAt B w a n H) (hR : BoolsAt B w a' n' R) (hqn : q ≤ n) (hf : FW w b st) (hBb : B ≤ b) (hbw : b < w.heap.size) :
    Calls Try.prog 8 #[.pointer (some ⟨b, 0, none⟩), .slice a n cap, .slice a' n' cap', .int .i64 0, .int .i64 q] w fun e w' => e = .returned (.tuple #[]) ∧ FW w' b (feed R H st 0 q) ∧ w.grownBy w' (some b) := by
  have h := feed_any b st a n cap H a' n' cap' R 0 q w hn hn' hH hR (Nat.zero_le _) hqn hf hBb hbw
  rw [Nat.sub_zero] at h
  exact h

set_option maxHeartbeats 1000000 in
theorem keeps_walk (a : Option Addr) (n cap : Nat) (H : Nat → ByteArray) (a' : Option Addr) (n' cap' : Nat) (R : Nat → Bool) (w : World) (hn : n ≤ maxLen) (hn' : n' ≤ maxLen) (hH : StrsAt w.heap.size w a n H) (hR : BoolsAt w.heap.size w a' n' R) :
    Calls Try.prog 3 #[.slice a n cap, .slice a' n' cap'] w fun e w' => e = .returned (.bool true) ∧ Below w.heap.size w w' := by
  have HH : Hid (StrsAt w.heap.size w a n H) := hH
  have HR : Hid (BoolsAt w.heap.size w a' n' R) := hR
  have HB := hn
  have HB' := hn'
  unfold maxLen at HB HB'
  clear hH hR
  go_enter Try.func3, Try.ntmps3
  go_wp2_with fail
  refine (bytesKeeps a n cap H a' n' cap' w hn hn' HH.out).mono ?_
  rintro e w' ⟨⟨c, rfl⟩, rfl⟩
  cases c with
  | false =>
    go_wp2_with fail
    go_ret
    exact ⟨rfl, Below.refl _ _⟩
  | true =>
    by_cases h1 : n ≤ 65536
    · by_cases h2 : n' ≤ 65536
      · go_wp2_with fail
        refine (hostBytes a n cap H a' n' cap' w' h1 h2 HH.out).mono ?_
        rintro e w'' ⟨⟨t, rfl⟩, rfl⟩
        by_cases ht : t ≤ 1048576
        · go_wp2_with fail
          refine (new_any _).mono ?_
          rintro e w1 ⟨rfl, hw1⟩
          have bel0 : Below w''.heap.size w'' w1 := by rw [hw1]; exact (Below.refl _ _).alloc (Nat.le_refl _) _
          have hf0 : FW w1 w''.heap.size none := by rw [hw1]; exact FW_new _
          have hsz : w''.heap.size < w1.heap.size := by rw [hw1]; simp
          have HF0 := hide hf0
          have HB0 := hide bel0
          clear hf0 bel0 hw1
          go_wp2_with fail
          refine (feed0 (B := w''.heap.size) w''.heap.size none a n cap H a' n' cap' R n w1 h1 h2 (HH.out.below HB0) (HR.out.below HB0) (Nat.le_refl _) HF0 (Nat.le_refl _) hsz).mono ?_
          rintro e w2 ⟨rfl, hf2, hg2⟩
          have bel2 : Below w''.heap.size w'' w2 := HB0.out.trans (below_of_grown hg2 (Nat.le_refl _) (by omega))
          have HF2 := hide hf2
          have HB2 := hide bel2
          clear hf2 hg2 bel2
          go_wp2_with fail
          refine (held_any w''.heap.size (feed R H none 0 n) w2 HF2.out).mono ?_
          rintro e w3 ⟨rfl, nq, rfl⟩
          have HB3 := hide (drewN_below HB2.out nq)
          generalize hst : feed R H none 0 n = st
          have HST := hide hst
          clear hst
          unfold ans
          go_wp2_with fail
          refine (leastRefused (B := w''.heap.size) a n cap H a' n' cap' R (w2.drewN nq) h1 h2 (HH.out.below HB3.out) (HR.out.below HB3.out)).mono ?_
          rintro e w4 ⟨rfl, rfl⟩
          rw [HST.out]
          unfold ans
          go_wp2_with fail
          go_ret
          exact ⟨rfl, HB3.out⟩
        · have ht' : (1048576 : Int) < t := by omega
          go_wp2_with fail
          go_ret
          exact ⟨rfl, Below.refl _ _⟩
      · have h2' : (65536 : Int) < n' := by omega
        go_wp2_with fail
        go_ret
        exact ⟨rfl, Below.refl _ _⟩
    · have h1' : (65536 : Int) < n := by omega
      go_wp2_with fail
      go_ret
      exact ⟨rfl, Below.refl _ _⟩

end Go.Proofs.Qxb6612438a

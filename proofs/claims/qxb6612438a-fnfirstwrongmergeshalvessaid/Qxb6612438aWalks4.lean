import Derived.Test.Qxb6612438aWalks3
namespace Go.Proofs.Qxb6612438a
open Go.RowKit Plain
set_option linter.unusedVariables false
set_option linter.unusedSimpArgs false

theorem below_of_grown {B b : Nat} {w w' : World} (h : w.grownBy w' (some b)) (hb : B ≤ b) (hB : B ≤ w.heap.size) : Below B w w' :=
  (Below.refl B w).grown h hB (fun k e => by cases e; exact hb)

theorem feed_next (R : Nat → Bool) (H : Nat → ByteArray) (st : St) (p k : Nat) (h : p ≤ k) : feed R H st p (k + 1 - p) = (if R k = true then put (feed R H st p (k - p)) k (H k) else feed R H st p (k - p)) := by
  rw [show k + 1 - p = (k - p) + 1 by omega]
  show Plain.step R H (feed R H st p (k - p)) (p + (k - p)) = _
  rw [show p + (k - p) = k by omega]
  rfl

set_option maxHeartbeats 1000000 in
theorem feed_any {B : Nat} (b : Nat) (st : St) (a : Option Addr) (n cap : Nat) (H : Nat → ByteArray) (a' : Option Addr) (n' cap' : Nat) (R : Nat → Bool) (p q : Nat) (w : World) (hn : n ≤ 65536) (hn' : n' ≤ 65536)
    (hH : StrsAt B w a n H) (hR : BoolsAt B w a' n' R) (hpq : p ≤ q) (hqn : q ≤ n) (hf : FW w b st) (hBb : B ≤ b) (hbw : b < w.heap.size) :
    Calls Try.prog 8 #[.pointer (some ⟨b, 0, none⟩), .slice a n cap, .slice a' n' cap', .int .i64 p, .int .i64 q] w fun e w' => e = .returned (.tuple #[]) ∧ FW w' b (feed R H st p (q - p)) ∧ w.grownBy w' (some b) := by
  have HH : Hid (StrsAt B w a n H) := hH
  have HR : Hid (BoolsAt B w a' n' R) := hR
  have HF : Hid (FW w b st) := hf
  have HW : Hid (b < w.heap.size) := hbw
  clear hR hf hbw
  obtain ⟨h0 | ⟨hbk, off, rfl, hb, hc⟩, hs⟩ := hH
  · obtain rfl : q = 0 := by omega
    obtain rfl : p = 0 := by omega
    subst h0
    go_enter Try.func8, Try.ntmps8
    go_wp2_with fail
    go_loop [10] (fun i => i = .int .i64 0) (fun _ => 0)
    case atStart => rfl
    case round =>
      obtain rfl := hrel
      go_wp2_with fail
      go_end0
      exact ⟨rfl, HF.out, ⟨rfl, rfl, rfl, Nat.le_refl _, fun _ _ _ => rfl⟩⟩
  · clear hc
    go_enter Try.func8, Try.ntmps8
    go_wp2_with fail
    go_loopw [10] (fun i wr => ∃ k : Nat, p ≤ k ∧ k ≤ q ∧ i = .int .i64 k ∧ FW wr b (feed R H st p (k - p)) ∧ w.grownBy wr (some b)) (fun i _ => q - (intOf i).toNat)
    case atStart => exact ⟨p, Nat.le_refl _, hpq, rfl, by rw [Nat.sub_self]; exact HF.out, ⟨rfl, rfl, rfl, Nat.le_refl _, fun _ _ _ => rfl⟩⟩
    case round =>
      obtain ⟨k, hpk, hk, rfl, hfk, hg⟩ := hrel
      have hbel : Below B w wr := below_of_grown hg hBb (by have := HW.out; omega)
      have HHr : Hid (StrsAt B wr.drew (some ⟨hbk, off, none⟩) n H) := (HH.out.below hbel).below ((Below.refl _ _).drew)
      have HRr : Hid (BoolsAt B wr.drew a' n' R) := (HR.out.below hbel).below ((Below.refl _ _).drew)
      have HFk : Hid (FW wr.drew b (feed R H st p (k - p))) := hfk.drew
      have HFk0 : Hid (FW wr b (feed R H st p (k - p))) := hfk
      have HG : Hid (w.grownBy wr (some b)) := hg
      have HWr : Hid (b < wr.drew.heap.size) := Nat.lt_of_lt_of_le HW.out hg.size
      clear hfk hg hbel
      by_cases hlt : k < q
      · have hck : wr.cell? ⟨hbk, off + k, none⟩ = some (.string (H k)) := by
          obtain ⟨h0 | ⟨b2, o2, e2, h2, h3⟩, _⟩ := HHr.out
          · omega
          · cases e2; exact h3 k (by omega)
        go_wp2_with fail
        go_region_with (first | (go_at_call 14; refine (refusedAt _ _ _ _ _ _ (by omega) (by omega) HRr.out).mono ?_; rintro e w' ⟨rfl, rfl⟩) | (go_at_call 13; refine (addRefusal _ _ _ _ _ _ HFk.out HWr.out).mono ?_; rintro e w' ⟨rfl, h1, h2⟩))
        all_goals
          have H1 : Hid (FW w' b (feed R H st p (k + 1 - p))) := by
            show FW _ _ _
            rw [feed_next R H st p k hpk]; exact h1
          have H2 : Hid (w.grownBy w' (some b)) := (HG.out.trans (grown_drew _ _)).trans h2
          clear h1 h2
          go_wp2_with fail
          go_roundw
          case rel => exact ⟨k + 1, by omega, by omega, by go_num, H1.out, H2.out⟩
          case measure => simp [intOf]; omega
      · obtain rfl : k = q := by omega
        go_wp2_with fail
        go_end0
        exact ⟨rfl, HFk0.out, HG.out⟩

end Go.Proofs.Qxb6612438a

import Derived.Test.Qxb6612438aWalks
namespace Go.Proofs.Qxb6612438a
open Go.RowKit Plain
set_option linter.unusedVariables false
set_option linter.unusedSimpArgs false

/-- The number, and the host, that is kept. -/
def num : St → Nat | none => 0 | some p => p.1
def lo : St → ByteArray | none => ByteArray.empty | some p => p.2
/-- What 'held' answers, and 'least': three values. -/
def ans (st : St) : Ending := .returned (.tuple #[.bool st.isSome, .int .i64 (num st), .string (lo st)])

theorem lo_some (j : Nat) (g : ByteArray) : lo (some (j, g)) = g := rfl
attribute [local go_sem] lo_some

set_option maxHeartbeats 1000000 in
theorem leastRefused0 {B : Nat} (st0 : St) (a : Option Addr) (n cap : Nat) (H : Nat → ByteArray) (a' : Option Addr) (n' cap' : Nat) (R : Nat → Bool) (w : World) (hn : n ≤ 65536) (hn' : n' ≤ 65536) (hH : StrsAt B w a n H) (hR : BoolsAt B w a' n' R) (hst0 : Hid (feed R H none 0 n = st0)) :
    Calls Try.prog 10 #[.slice a n cap, .slice a' n' cap'] w fun e w' => e = ans st0 ∧ w' = w := by
  have hR' : Hid (BoolsAt B w a' n' R) := hR
  clear hR
  obtain ⟨h0 | ⟨b, off, rfl, hb, hc⟩, hs⟩ := hH
  · subst h0
    obtain rfl : none = st0 := hst0.out
    go_enter Try.func10, Try.ntmps10
    go_wp2_with fail
    go_loop [7, 8, 9] (fun f l i => f = .bool false ∧ l = .string ByteArray.empty ∧ i = .int .i64 0) (fun _ _ _ => 0)
    case atStart => exact ⟨rfl, rfl, rfl⟩
    case round =>
      obtain ⟨rfl, rfl, rfl⟩ := hrel
      go_wp2_with fail
      go_ret3
      exact ⟨rfl, rfl⟩
  · go_enter Try.func10, Try.ntmps10
    go_wp2_with fail
    go_loop [7, 8, 9] (fun f l i => ∃ k : Nat, k ≤ n ∧ i = .int .i64 k ∧ f = .bool (feed R H none 0 k).isSome ∧ l = .string (lo (feed R H none 0 k))) (fun _ _ i => n - (intOf i).toNat)
    case atStart => exact ⟨0, Nat.zero_le _, rfl, rfl, rfl⟩
    case round =>
      obtain ⟨k, hk, rfl, rfl, rfl⟩ := hrel
      by_cases hlt : k < n
      · have hck := hc k hlt
        have hf : Hid (feed R H none 0 (k + 1) = Plain.step R H (feed R H none 0 k) k) := by
          show Plain.step R H _ (0 + k) = _
          rw [Nat.zero_add]
        generalize hst : feed R H none 0 k = st at hf ⊢
        clear hst
        cases hRk : R k with
        | false =>
          go_wp2_with (go_at_call 14; refine (refusedAt _ _ _ _ _ _ (by omega) (by omega) hR'.out).mono ?_; rintro e w' ⟨rfl, rfl⟩)
          go_round
          case rel =>
            have e1 : feed R H none 0 (k + 1) = st := by rw [hf.out]; simp [Plain.step, hRk]
            exact ⟨k + 1, by omega, by go_num, by rw [e1], by rw [e1]⟩
          case measure => simp [intOf]; omega
        | true =>
          cases st with
          | none =>
            go_wp2_with (go_at_call 14; refine (refusedAt _ _ _ _ _ _ (by omega) (by omega) hR'.out).mono ?_; rintro e w' ⟨rfl, rfl⟩)
            go_round
            case rel =>
              have e1 : feed R H none 0 (k + 1) = some (k, H k) := by rw [hf.out]; simp [Plain.step, hRk, put]
              exact ⟨k + 1, by omega, by go_num, by rw [e1]; rfl, by rw [e1]; rfl⟩
            case measure => simp [intOf]; omega
          | some p =>
            obtain ⟨j, g⟩ := p
            cases hl : Op.bytesLess (H k).toList g.toList with
            | false =>
              go_wp2_with (go_at_call 14; refine (refusedAt _ _ _ _ _ _ (by omega) (by omega) hR'.out).mono ?_; rintro e w' ⟨rfl, rfl⟩)
              go_round
              case rel =>
                have e1 : feed R H none 0 (k + 1) = some (j, g) := by rw [hf.out]; simp [Plain.step, hRk, put, lt, hl]
                exact ⟨k + 1, by omega, by go_num, by rw [e1]; rfl, by rw [e1]; rfl⟩
              case measure => simp [intOf]; omega
            | true =>
              go_wp2_with (go_at_call 14; refine (refusedAt _ _ _ _ _ _ (by omega) (by omega) hR'.out).mono ?_; rintro e w' ⟨rfl, rfl⟩)
              go_round
              case rel =>
                have e1 : feed R H none 0 (k + 1) = some (k, H k) := by rw [hf.out]; simp [Plain.step, hRk, put, lt, hl]
                exact ⟨k + 1, by omega, by go_num, by rw [e1]; rfl, by rw [e1]; rfl⟩
              case measure => simp [intOf]; omega
      · obtain rfl : k = n := by omega
        have hg := good_feed R H k
        rw [hst0.out] at hg ⊢
        clear hst0
        cases st0 with
        | none =>
          clear hg
          go_wp2_with fail
          go_ret3
          exact ⟨rfl, rfl⟩
        | some p =>
          obtain ⟨j, g⟩ := p
          obtain ⟨hj, hRj, hgj, _, hne⟩ := hg
          have HG : Hid (g = H j) := hgj
          have HN : Hid (∀ m, m < j → R m = true → (H m).toList ≠ g.toList) := hne
          have HJ : Hid (R j = true) := hRj
          clear hgj hne hRj
          go_wp2_with fail
          go_loop [10] (fun i => ∃ m : Nat, m ≤ j ∧ i = .int .i64 m) (fun i => j - (intOf i).toNat)
          case atStart => exact ⟨0, Nat.zero_le _, rfl⟩
          case round =>
            obtain ⟨m, hm, rfl⟩ := hrel
            have hmk : m < k := by omega
            have hcm := hc m hmk
            by_cases hmj : m < j
            · have hno : R m = false ∨ (R m = true ∧ ((H m).toList == g.toList) = false) := by
                cases e : R m with
                | false => exact .inl rfl
                | true => exact .inr ⟨rfl, beq_eq_false_iff_ne.2 (HN.out m hmj e)⟩
              rcases hno with hno | ⟨hyes, hno⟩
              · go_wp2_with (go_at_call 14; refine (refusedAt _ _ _ _ _ _ (by omega) (by omega) hR'.out).mono ?_; rintro e w' ⟨rfl, rfl⟩)
                go_round
                case rel => exact ⟨m + 1, by omega, by go_num⟩
                case measure => simp [intOf]; omega
              · go_wp2_with (go_at_call 14; refine (refusedAt _ _ _ _ _ _ (by omega) (by omega) hR'.out).mono ?_; rintro e w' ⟨rfl, rfl⟩)
                go_round
                case rel => exact ⟨m + 1, by omega, by go_num⟩
                case measure => simp [intOf]; omega
            · obtain rfl : m = j := by omega
              have hyes := HJ.out
              have heq : ((H m).toList == g.toList) = true := by rw [HG.out]; simp
              go_wp2_with (go_at_call 14; refine (refusedAt _ _ _ _ _ _ (by omega) (by omega) hR'.out).mono ?_; rintro e w' ⟨rfl, rfl⟩)
              go_ret3
              exact ⟨rfl, rfl⟩

theorem leastRefused {B : Nat} (a : Option Addr) (n cap : Nat) (H : Nat → ByteArray) (a' : Option Addr) (n' cap' : Nat) (R : Nat → Bool) (w : World) (hn : n ≤ 65536) (hn' : n' ≤ 65536) (hH : StrsAt B w a n H) (hR : BoolsAt B w a' n' R) :
    Calls Try.prog 10 #[.slice a n cap, .slice a' n' cap'] w fun e w' => e = ans (feed R H none 0 n) ∧ w' = w :=
  leastRefused0 _ a n cap H a' n' cap' R w hn hn' hH hR rfl

end Go.Proofs.Qxb6612438a

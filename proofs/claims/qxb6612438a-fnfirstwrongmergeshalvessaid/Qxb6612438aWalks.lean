import Derived.Test.Qxb6612438aRows
import Derived.Test.Qxb6612438aPlain
import Derived.WalkKit
import Derived.WalkSpells
import Derived.WalkLawsBesides
import Derived.BigQuiet
import Derived.Deep.QuietTactic
import Derived.Deep.RegionWith
namespace Go.Proofs.Qxb6612438a
open Go.RowKit
set_option linter.unusedVariables false
set_option linter.unusedSimpArgs false

/-- The elements of a slice of bools, by index: behind the length: false. -/
def BoolsAt (B : Nat) (w : World) (a : Option Addr) (n : Nat) (R : Nat → Bool) : Prop :=
  (∀ i, n ≤ i → R i = false) ∧ (n = 0 ∨ ∃ b off, a = some ⟨b, off, none⟩ ∧ b < B ∧ ∀ i, i < n → w.cell? ⟨b, off + i, none⟩ = some (.bool (R i)))

/-- The elements of a slice of strings, by index. -/
def StrsAt (B : Nat) (w : World) (a : Option Addr) (n : Nat) (H : Nat → ByteArray) : Prop :=
  (n = 0 ∨ ∃ b off, a = some ⟨b, off, none⟩ ∧ b < B ∧ ∀ i, i < n → w.cell? ⟨b, off + i, none⟩ = some (.string (H i))) ∧ ∀ i, i < n → (H i).size ≤ maxLen

theorem BoolsAt.below {B : Nat} {w w' : World} {a : Option Addr} {n : Nat} {R : Nat → Bool} (h : BoolsAt B w a n R) (hb : Below B w w') : BoolsAt B w' a n R := by
  obtain ⟨h1, h2⟩ := h
  refine ⟨h1, ?_⟩
  rcases h2 with h2 | ⟨b, off, rfl, h3, h4⟩
  · exact .inl h2
  · exact .inr ⟨b, off, rfl, h3, fun i hi => by rw [hb.cell (p := ⟨b, off + i, none⟩) h3]; exact h4 i hi⟩

theorem StrsAt.below {B : Nat} {w w' : World} {a : Option Addr} {n : Nat} {H : Nat → ByteArray} (h : StrsAt B w a n H) (hb : Below B w w') : StrsAt B w' a n H := by
  obtain ⟨h2, h1⟩ := h
  refine ⟨?_, h1⟩
  rcases h2 with h2 | ⟨b, off, rfl, h3, h4⟩
  · exact .inl h2
  · exact .inr ⟨b, off, rfl, h3, fun i hi => by rw [hb.cell (p := ⟨b, off + i, none⟩) h3]; exact h4 i hi⟩

set_option maxHeartbeats 400000 in
theorem refusedAt {B : Nat} (a : Option Addr) (n cap : Nat) (R : Nat → Bool) (k : Nat) (w : World) (hn : n ≤ 1048576) (hk : k ≤ 1048576) (hR : BoolsAt B w a n R) :
    Calls Try.prog 14 #[.slice a n cap, .int .i64 k] w fun e w' => e = .returned (.bool (R k)) ∧ w' = w := by
  obtain ⟨hz, h0 | ⟨b, off, rfl, hb, hc⟩⟩ := hR
  · subst h0
    have e := hz k (Nat.zero_le _)
    rw [e]
    have hd : decide ((k : Int) < 0) = false := by simp
    go_enter Try.func14, Try.ntmps14
    go_wp2
    go_ret
    exact ⟨rfl, rfl⟩
  · by_cases hlt : k < n
    · have hck := hc k hlt
      have hd : decide ((k : Int) < (n : Int)) = true := by simp; omega
      go_enter Try.func14, Try.ntmps14
      go_wp2
      go_ret
      exact ⟨rfl, rfl⟩
    · have e := hz k (by omega)
      rw [e]
      have hd : decide ((k : Int) < (n : Int)) = false := by simp; omega
      go_enter Try.func14, Try.ntmps14
      go_wp2
      go_ret
      exact ⟨rfl, rfl⟩

/-- It returned one bool, whichever. (A plain 'def': the walk's simp leaves it shut.) -/
def AnyBool (e : Ending) : Prop := ∃ c, e = .returned (.bool c)
theorem AnyBool.mk (c : Bool) : AnyBool (.returned (.bool c)) := ⟨c, rfl⟩
/-- It returned one int, whichever. -/
def AnyInt (e : Ending) : Prop := ∃ n, e = .returned (.int .i64 n)
theorem AnyInt.mk (n : Int) : AnyInt (.returned (.int .i64 n)) := ⟨n, rfl⟩

set_option maxHeartbeats 400000 in
theorem bytesKeeps {B : Nat} (a : Option Addr) (n cap : Nat) (H : Nat → ByteArray) (a' : Option Addr) (n' cap' : Nat) (w : World) (hn : n ≤ maxLen) (hn' : n' ≤ maxLen) (hH : StrsAt B w a n H) :
    Calls Try.prog 5 #[.slice a n cap, .slice a' n' cap'] w fun e w' => AnyBool e ∧ w' = w := by
  unfold maxLen at hn hn'
  obtain ⟨h0 | ⟨b, off, rfl, hb, hc⟩, hs⟩ := hH
  · subst h0
    go_enter Try.func5, Try.ntmps5
    go_wp2
    go_loop [5, 6] (fun z i => z = .int .i64 0 ∧ i = .int .i64 0) (fun _ _ => 0)
    case atStart => exact ⟨rfl, rfl⟩
    case round =>
      obtain ⟨rfl, rfl⟩ := hrel
      go_wp2
      all_goals
        go_ret
        exact ⟨AnyBool.mk _, rfl⟩
  · go_enter Try.func5, Try.ntmps5
    go_wp2
    · go_ret
      exact ⟨AnyBool.mk _, rfl⟩
    · go_loop [5, 6] (fun z i => ∃ k m : Nat, k ≤ n ∧ i = .int .i64 k ∧ z = .int .i64 m ∧ m ≤ 1048576) (fun _ i => n - (intOf i).toNat)
      case atStart => exact ⟨0, n, by omega, rfl, rfl, by omega⟩
      case round =>
        obtain ⟨k, m, hk, rfl, rfl, hm⟩ := hrel
        by_cases hlt : k < n
        · have hck := hc k hlt
          have hsk := hs k hlt
          unfold maxLen at hsk
          go_wp2
          · go_ret
            exact ⟨AnyBool.mk _, rfl⟩
          · go_ret
            exact ⟨AnyBool.mk _, rfl⟩
          · go_round
            case rel => exact ⟨k + 1, m + (H k).size, by omega, by go_num, by go_num, by omega⟩
            case measure => simp [intOf]; omega
        · go_wp2
          all_goals
            go_ret
            exact ⟨AnyBool.mk _, rfl⟩

set_option maxHeartbeats 400000 in
theorem bytesMerges {B : Nat} (a : Option Addr) (n cap : Nat) (H : Nat → ByteArray) (a' : Option Addr) (n' cap' : Nat) (sp : Int) (w : World) (hn : n ≤ maxLen) (hn' : n' ≤ maxLen) (hH : StrsAt B w a n H) :
    Calls Try.prog 11 #[.slice a n cap, .slice a' n' cap', .int .i64 sp] w fun e w' => AnyBool e ∧ w' = w := by
  unfold maxLen at hn hn'
  obtain ⟨h0 | ⟨b, off, rfl, hb, hc⟩, hs⟩ := hH
  · subst h0
    go_enter Try.func11, Try.ntmps11
    go_wp2
    go_loop [7, 8] (fun z i => z = .int .i64 0 ∧ i = .int .i64 0) (fun _ _ => 0)
    case atStart => exact ⟨rfl, rfl⟩
    case round =>
      obtain ⟨rfl, rfl⟩ := hrel
      go_wp2
      all_goals
        go_ret
        exact ⟨AnyBool.mk _, rfl⟩
  · go_enter Try.func11, Try.ntmps11
    go_wp2
    · go_ret
      exact ⟨AnyBool.mk _, rfl⟩
    · go_loop [7, 8] (fun z i => ∃ k m : Nat, k ≤ n ∧ i = .int .i64 k ∧ z = .int .i64 m ∧ m ≤ 1048576) (fun _ i => n - (intOf i).toNat)
      case atStart => exact ⟨0, n, by omega, rfl, rfl, by omega⟩
      case round =>
        obtain ⟨k, m, hk, rfl, rfl, hm⟩ := hrel
        by_cases hlt : k < n
        · have hck := hc k hlt
          have hsk := hs k hlt
          unfold maxLen at hsk
          go_wp2
          · go_ret
            exact ⟨AnyBool.mk _, rfl⟩
          · go_ret
            exact ⟨AnyBool.mk _, rfl⟩
          · go_round
            case rel => exact ⟨k + 1, m + (H k).size, by omega, by go_num, by go_num, by omega⟩
            case measure => simp [intOf]; omega
        · go_wp2
          all_goals
            go_ret
            exact ⟨AnyBool.mk _, rfl⟩

set_option maxHeartbeats 400000 in
theorem hostBytes {B : Nat} (a : Option Addr) (n cap : Nat) (H : Nat → ByteArray) (a' : Option Addr) (n' cap' : Nat) (w : World) (hn : n ≤ 65536) (hn' : n' ≤ 65536) (hH : StrsAt B w a n H) :
    Calls Try.prog 6 #[.slice a n cap, .slice a' n' cap'] w fun e w' => AnyInt e ∧ w' = w := by
  obtain ⟨h0 | ⟨b, off, rfl, hb, hc⟩, hs⟩ := hH
  · subst h0
    go_enter Try.func6, Try.ntmps6
    go_wp2
    go_loop [5, 6] (fun z i => z = .int .i64 n' ∧ i = .int .i64 0) (fun _ _ => 0)
    case atStart => exact ⟨rfl, rfl⟩
    case round =>
      obtain ⟨rfl, rfl⟩ := hrel
      go_wp2
      go_ret
      exact ⟨AnyInt.mk _, rfl⟩
  · go_enter Try.func6, Try.ntmps6
    go_wp2
    go_loop [5, 6] (fun z i => ∃ k m : Nat, k ≤ n ∧ i = .int .i64 k ∧ z = .int .i64 m ∧ m ≤ 1048576) (fun _ i => n - (intOf i).toNat)
    case atStart => exact ⟨0, n', by omega, rfl, rfl, by omega⟩
    case round =>
      obtain ⟨k, m, hk, rfl, rfl, hm⟩ := hrel
      by_cases hlt : k < n
      · have hck := hc k hlt
        have hsk := hs k hlt
        unfold maxLen at hsk
        go_wp2
        · go_ret
          exact ⟨AnyInt.mk _, rfl⟩
        · go_ret
          exact ⟨AnyInt.mk _, rfl⟩
        · go_round
          case rel => exact ⟨k + 1, m + (16 + (H k).size), by omega, by go_num, by go_num, by omega⟩
          case measure => simp [intOf]; omega
      · go_wp2
        all_goals
          go_ret
          exact ⟨AnyInt.mk _, rfl⟩

end Go.Proofs.Qxb6612438a

import Derived.Test.Qxb6612310aRows
import Derived.Test.Qxb6612310aPlain
import Derived.WalkKit
import Derived.WalkSpells
import Derived.WalkLawsBesides
import Derived.BigQuiet
import Derived.Deep.QuietTactic
namespace Go.Proofs.Qxb6612310a
open Go.RowKit Plain
set_option linter.unusedVariables false
set_option linter.unusedSimpArgs false

theorem hide {p : Prop} (h : p) : Hid p := h

/-- The elements of 'specs', by index: type, name, endpoint. -/
def SpecsAt (B : Nat) (w : World) (a : Option Addr) (n : Nat) (T N E : Nat → ByteArray) : Prop :=
  (n = 0 ∨ ∃ b off, a = some ⟨b, off, none⟩ ∧ b < B ∧ ∀ i, i < n → w.cell? ⟨b, off + i * 3, none⟩ = some (.string (T i)) ∧ w.cell? ⟨b, off + i * 3 + 1, none⟩ = some (.string (N i)) ∧ w.cell? ⟨b, off + i * 3 + 2, none⟩ = some (.string (E i))) ∧
  ∀ i, i < n → (T i).size ≤ maxLen ∧ (N i).size ≤ maxLen ∧ (E i).size ≤ maxLen

/-- The elements of 'ms', by index: pattern, secret, line. -/
def MsAt (B : Nat) (w : World) (a : Option Addr) (n : Nat) (P : Nat → Int) (S : Nat → ByteArray) (L : Nat → Int) : Prop :=
  (n = 0 ∨ ∃ b off, a = some ⟨b, off, none⟩ ∧ b < B ∧ ∀ i, i < n → w.cell? ⟨b, off + i * 3, none⟩ = some (.int .i64 (P i)) ∧ w.cell? ⟨b, off + i * 3 + 1, none⟩ = some (.string (S i)) ∧ w.cell? ⟨b, off + i * 3 + 2, none⟩ = some (.int .i64 (L i))) ∧
  ∀ i, i < n → (S i).size ≤ maxLen

theorem SpecsAt.below {B : Nat} {w w' : World} {a : Option Addr} {n : Nat} {T N E : Nat → ByteArray} (h : SpecsAt B w a n T N E) (hb : Below B w w') : SpecsAt B w' a n T N E := by
  obtain ⟨h1, h2⟩ := h
  refine ⟨?_, h2⟩
  rcases h1 with h1 | ⟨b, off, rfl, h3, h4⟩
  · exact .inl h1
  · refine .inr ⟨b, off, rfl, h3, fun i hi => ?_⟩
    obtain ⟨c0, c1, c2⟩ := h4 i hi
    exact ⟨(hb.cell (p := ⟨b, _, none⟩) h3).trans c0, (hb.cell (p := ⟨b, _, none⟩) h3).trans c1, (hb.cell (p := ⟨b, _, none⟩) h3).trans c2⟩

theorem MsAt.below {B : Nat} {w w' : World} {a : Option Addr} {n : Nat} {P : Nat → Int} {S : Nat → ByteArray} {L : Nat → Int} (h : MsAt B w a n P S L) (hb : Below B w w') : MsAt B w' a n P S L := by
  obtain ⟨h1, h2⟩ := h
  refine ⟨?_, h2⟩
  rcases h1 with h1 | ⟨b, off, rfl, h3, h4⟩
  · exact .inl h1
  · refine .inr ⟨b, off, rfl, h3, fun i hi => ?_⟩
    obtain ⟨c0, c1, c2⟩ := h4 i hi
    exact ⟨(hb.cell (p := ⟨b, _, none⟩) h3).trans c0, (hb.cell (p := ⟨b, _, none⟩) h3).trans c1, (hb.cell (p := ⟨b, _, none⟩) h3).trans c2⟩

/-- It returned one bool, whichever. (A plain 'def': the walk's simp leaves it shut.) -/
def AnyBool (e : Ending) : Prop := ∃ c, e = .returned (.bool c)
theorem AnyBool.mk (c : Bool) : AnyBool (.returned (.bool c)) := ⟨c, rfl⟩
/-- It returned one int that is at least 0 and at most 2^30. -/
def SomeInt (e : Ending) : Prop := ∃ n : Int, e = .returned (.int .i64 n) ∧ 0 ≤ n ∧ n ≤ 1073741824
theorem SomeInt.mk {n : Int} (h0 : 0 ≤ n) (h1 : n ≤ 1073741824) : SomeInt (.returned (.int .i64 n)) := ⟨n, rfl, h0, h1⟩

/-- 'zzAddLen'. -/
def addLen (n l : Int) : Int := if 1048576 < n ∨ 1048576 < l ∨ l < 0 then 1048577 else n + l
theorem addLen_bd (n l : Int) (h0 : 0 ≤ n) : 0 ≤ addLen n l ∧ addLen n l ≤ 2097152 := by
  unfold addLen
  split <;> omega

theorem addLen_any (n l : Int) (w : World) (hn0 : 0 ≤ n) (hn : n ≤ 9223372036854775807) (hl0 : -9223372036854775808 ≤ l) (hl : l ≤ 9223372036854775807) :
    Calls Try.prog 6 #[.int .i64 n, .int .i64 l] w fun e w' => e = .returned (.int .i64 (addLen n l)) ∧ w' = w := by
  by_cases h1 : 1048576 < n
  · have e : Hid (addLen n l = 1048577) := by show _ = _; unfold addLen; rw [if_pos (.inl h1)]
    go_enter Try.func6, Try.ntmps6
    go_wp2
    go_ret
    exact ⟨by rw [e.out]; rfl, rfl⟩
  by_cases h2 : 1048576 < l
  · have e : Hid (addLen n l = 1048577) := by show _ = _; unfold addLen; rw [if_pos (.inr (.inl h2))]
    go_enter Try.func6, Try.ntmps6
    go_wp2
    go_ret
    exact ⟨by rw [e.out]; rfl, rfl⟩
  by_cases h3 : l < 0
  · have e : Hid (addLen n l = 1048577) := by show _ = _; unfold addLen; rw [if_pos (.inr (.inr h3))]
    go_enter Try.func6, Try.ntmps6
    go_wp2
    go_ret
    exact ⟨by rw [e.out]; rfl, rfl⟩
  have e : Hid (addLen n l = n + l) := by show _ = _; unfold addLen; rw [if_neg (by omega)]
  go_enter Try.func6, Try.ntmps6
  go_wp2
  go_ret
  exact ⟨by rw [e.out]; rfl, rfl⟩

/-- How 'zzPatsInRange' ends. -/
def InRange (n : Nat) (P : Nat → Int) (np : Int) (e : Ending) : Prop := e = .returned (.bool false) ∨ (e = .returned (.bool true) ∧ ∀ i, i < n → 0 ≤ P i ∧ P i < np)
theorem InRange.no (n : Nat) (P : Nat → Int) (np : Int) : InRange n P np (.returned (.bool false)) := .inl rfl
theorem InRange.yes {n : Nat} {P : Nat → Int} {np : Int} (h : ∀ i, i < n → 0 ≤ P i ∧ P i < np) : InRange n P np (.returned (.bool true)) := .inr ⟨rfl, h⟩

set_option maxHeartbeats 400000 in
/-- 'zzPatsInRange': true only where every pattern's index is in range. -/
theorem patsInRange {B : Nat} (np : Int) (a : Option Addr) (n cap : Nat) (P : Nat → Int) (S : Nat → ByteArray) (L : Nat → Int) (w : World) (hn : (n : Int) ≤ 4096) (hM : MsAt B w a n P S L) :
    Calls Try.prog 9 #[.int .i64 np, .slice a n cap] w fun e w' => InRange n P np e ∧ w' = w := by
  obtain ⟨h0 | ⟨b, off, rfl, hb, hc⟩, hs⟩ := hM
  · subst h0
    go_enter Try.func9, Try.ntmps9
    go_wp2
    go_loop [5] (fun i => i = .int .i64 0) (fun _ => 0)
    case atStart => rfl
    case round =>
      obtain rfl := hrel
      go_wp2
      go_ret
      exact ⟨InRange.yes (fun i hi => absurd hi (Nat.not_lt_zero i)), rfl⟩
  · go_enter Try.func9, Try.ntmps9
    go_wp2
    go_loop [5] (fun i => ∃ k : Nat, k ≤ n ∧ i = .int .i64 k ∧ Hid (∀ j, j < k → 0 ≤ P j ∧ P j < np)) (fun i => n - (intOf i).toNat)
    case atStart => exact ⟨0, Nat.zero_le _, rfl, fun j hj => absurd hj (Nat.not_lt_zero j)⟩
    case round =>
      obtain ⟨k, hk, rfl, hall⟩ := hrel
      by_cases hlt : k < n
      · obtain ⟨c0, _, _⟩ := hc k hlt
        clear hc
        by_cases h1 : P k < 0
        · go_wp2
          go_ret
          exact ⟨InRange.no _ _ _, rfl⟩
        · by_cases h2 : np ≤ P k
          · go_wp2
            go_ret
            exact ⟨InRange.no _ _ _, rfl⟩
          · have HP : Hid (0 ≤ P k ∧ P k < np) := ⟨by omega, by omega⟩
            go_wp2
            go_round
            case rel => exact ⟨k + 1, by omega, by go_num, fun j hj => by
              by_cases e : j = k
              · rw [e]; exact HP.out
              · exact hall.out j (by omega)⟩
            case measure => simp [intOf]; omega
      · obtain rfl : k = n := by omega
        go_wp2
        go_ret
        exact ⟨InRange.yes hall.out, rfl⟩

set_option maxHeartbeats 400000 in
theorem specBytes {B : Nat} (a : Option Addr) (n cap : Nat) (T N E : Nat → ByteArray) (w : World) (hn : (n : Int) ≤ 65536) (hS : SpecsAt B w a n T N E) :
    Calls Try.prog 7 #[.slice a n cap] w fun e w' => SomeInt e ∧ w' = w := by
  obtain ⟨h0 | ⟨b, off, rfl, hb, hc⟩, hs⟩ := hS
  · subst h0
    go_enter Try.func7, Try.ntmps7
    go_wp2_with fail
    go_loop [3, 4] (fun z i => z = .int .i64 0 ∧ i = .int .i64 0) (fun _ _ => 0)
    case atStart => exact ⟨rfl, rfl⟩
    case round =>
      obtain ⟨rfl, rfl⟩ := hrel
      go_wp2_with fail
      go_ret
      exact ⟨SomeInt.mk (by omega) (by omega), rfl⟩
  · go_enter Try.func7, Try.ntmps7
    go_wp2_with fail
    go_loop [3, 4] (fun z i => ∃ (k : Nat) (m : Int), k ≤ n ∧ i = .int .i64 k ∧ z = .int .i64 m ∧ 0 ≤ m ∧ m ≤ 4194304) (fun _ i => n - (intOf i).toNat)
    case atStart => exact ⟨0, 48 * (n : Int), Nat.zero_le _, rfl, rfl, by omega, by omega⟩
    case round =>
      obtain ⟨k, m, hk, rfl, rfl, hm0, hm⟩ := hrel
      by_cases hlt : k < n
      · obtain ⟨c0, c1, c2⟩ := hc k hlt
        obtain ⟨s0, s1, s2⟩ := hs k hlt
        unfold maxLen at s0 s1 s2
        have s0' : ((T k).size : Int) ≤ 9223372036854775807 := by omega
        have s1' : ((N k).size : Int) ≤ 9223372036854775807 := by omega
        have s2' : ((E k).size : Int) ≤ 9223372036854775807 := by omega
        clear hc hs s0 s1 s2
        go_wp2_with fail
        refine (addLen_any _ _ _ (by omega) (by omega) (by omega) (by omega)).mono ?_
        rintro e w' ⟨rfl, rfl⟩
        have b1 := addLen_bd m (T k).size hm0
        generalize addLen m (T k).size = m1 at b1 ⊢
        obtain ⟨b10, b11⟩ := b1
        go_wp2_with fail
        refine (addLen_any _ _ _ (by omega) (by omega) (by omega) (by omega)).mono ?_
        rintro e w' ⟨rfl, rfl⟩
        have b2 := addLen_bd m1 (N k).size b10
        generalize addLen m1 (N k).size = m2 at b2 ⊢
        obtain ⟨b20, b21⟩ := b2
        go_wp2_with fail
        refine (addLen_any _ _ _ (by omega) (by omega) (by omega) (by omega)).mono ?_
        rintro e w' ⟨rfl, rfl⟩
        have b3 := addLen_bd m2 (E k).size b20
        generalize addLen m2 (E k).size = m3 at b3 ⊢
        obtain ⟨b30, b31⟩ := b3
        go_wp2_with fail
        go_round
        case rel => exact ⟨k + 1, m3, by omega, by go_num, rfl, by omega, by omega⟩
        case measure => simp [intOf]; omega
      · go_wp2_with fail
        go_ret
        exact ⟨SomeInt.mk (by omega) (by omega), rfl⟩

set_option maxHeartbeats 400000 in
theorem msBytes {B : Nat} (a : Option Addr) (n cap : Nat) (P : Nat → Int) (S : Nat → ByteArray) (L : Nat → Int) (w : World) (hn : (n : Int) ≤ 4096) (hM : MsAt B w a n P S L) :
    Calls Try.prog 8 #[.slice a n cap] w fun e w' => SomeInt e ∧ w' = w := by
  obtain ⟨h0 | ⟨b, off, rfl, hb, hc⟩, hs⟩ := hM
  · subst h0
    go_enter Try.func8, Try.ntmps8
    go_wp2_with fail
    go_loop [3, 4] (fun z i => z = .int .i64 0 ∧ i = .int .i64 0) (fun _ _ => 0)
    case atStart => exact ⟨rfl, rfl⟩
    case round =>
      obtain ⟨rfl, rfl⟩ := hrel
      go_wp2_with fail
      go_ret
      exact ⟨SomeInt.mk (by omega) (by omega), rfl⟩
  · go_enter Try.func8, Try.ntmps8
    go_wp2_with fail
    go_loop [3, 4] (fun z i => ∃ (k : Nat) (m : Int), k ≤ n ∧ i = .int .i64 k ∧ z = .int .i64 m ∧ 0 ≤ m ∧ m ≤ 4194304) (fun _ i => n - (intOf i).toNat)
    case atStart => exact ⟨0, 32 * (n : Int), Nat.zero_le _, rfl, rfl, by omega, by omega⟩
    case round =>
      obtain ⟨k, m, hk, rfl, rfl, hm0, hm⟩ := hrel
      by_cases hlt : k < n
      · obtain ⟨c0, c1, c2⟩ := hc k hlt
        have s1 := hs k hlt
        unfold maxLen at s1
        have s1' : ((S k).size : Int) ≤ 9223372036854775807 := by omega
        clear hc hs s1
        go_wp2_with fail
        refine (addLen_any _ _ _ (by omega) (by omega) (by omega) (by omega)).mono ?_
        rintro e w' ⟨rfl, rfl⟩
        have b1 := addLen_bd m (S k).size hm0
        generalize addLen m (S k).size = m1 at b1 ⊢
        obtain ⟨b10, b11⟩ := b1
        go_wp2_with fail
        go_round
        case rel => exact ⟨k + 1, m1, by omega, by go_num, rfl, by omega, by omega⟩
        case measure => simp [intOf]; omega
      · go_wp2_with fail
        go_ret
        exact ⟨SomeInt.mk (by omega) (by omega), rfl⟩

end Go.Proofs.Qxb6612310a

import Derived.Test.Qxb6612310aArgs
namespace Go.Proofs.Qxb6612310a
open Go.RowKit Plain
set_option linter.unusedVariables false
set_option linter.unusedSimpArgs false

set_option maxRecDepth 100000 in
set_option maxHeartbeats 2000000 in
theorem bytesTwo {B : Nat} (a : Option Addr) (n cap : Nat) (T N E : Nat → ByteArray) (a' : Option Addr) (n' cap' : Nat) (P : Nat → Int) (S : Nat → ByteArray) (L : Nat → Int) (so : ByteArray) (co : ByteArray) (pa : ByteArray) (ln : Int) (so2 : ByteArray) (co2 : ByteArray) (pa2 : ByteArray) (ln2 : Int) (w : World) (hn : n ≤ maxLen) (hn' : n' ≤ maxLen) (hS : SpecsAt B w a n T N E) (hM : MsAt B w a' n' P S L) (h_so : so.size ≤ maxLen) (h_co : co.size ≤ maxLen) (h_pa : pa.size ≤ maxLen) (h_so2 : so2.size ≤ maxLen) (h_co2 : co2.size ≤ maxLen) (h_pa2 : pa2.size ≤ maxLen) :
    Calls Try.prog 15 #[.slice a n cap, .slice a' n' cap', .string so, .string co, .string pa, .int .i64 ln, .string so2, .string co2, .string pa2, .int .i64 ln2] w fun e w' => AnyBool e ∧ w' = w := by
  have gn : (n : Int) ≤ 9223372036854775807 := by unfold maxLen at hn; omega
  have gn' : (n' : Int) ≤ 9223372036854775807 := by unfold maxLen at hn'; omega
  have g_so : (so.size : Int) ≤ 9223372036854775807 := by unfold maxLen at h_so; omega
  have g_co : (co.size : Int) ≤ 9223372036854775807 := by unfold maxLen at h_co; omega
  have g_pa : (pa.size : Int) ≤ 9223372036854775807 := by unfold maxLen at h_pa; omega
  have g_so2 : (so2.size : Int) ≤ 9223372036854775807 := by unfold maxLen at h_so2; omega
  have g_co2 : (co2.size : Int) ≤ 9223372036854775807 := by unfold maxLen at h_co2; omega
  have g_pa2 : (pa2.size : Int) ≤ 9223372036854775807 := by unfold maxLen at h_pa2; omega
  clear hn hn' h_so h_co h_pa h_so2 h_co2 h_pa2
  have HM := hide hM
  clear hM
  by_cases u0 : 1048576 < (n : Int)
  · go_enter Try.func15, Try.ntmps15
    go_wp2
    go_ret
    exact ⟨AnyBool.mk _, rfl⟩
  obtain ⟨h0 | ⟨b, off, rfl, hb, hc⟩, hs⟩ := hS
  · subst h0
    go_enter Try.func15, Try.ntmps15
    go_wp2
    go_loop [21, 22] (fun z i => z = .int .i64 0 ∧ i = .int .i64 0) (fun _ _ => 0)
    case atStart => exact ⟨rfl, rfl⟩
    case round =>
      obtain ⟨rfl, rfl⟩ := hrel
      have hM := HM.out
      by_cases u1 : 1048576 < (n' : Int)
      · go_wp2
        go_ret
        exact ⟨AnyBool.mk _, rfl⟩
      obtain ⟨h0' | ⟨b', off', rfl, hb', hc'⟩, hs'⟩ := hM
      · subst h0'
        go_wp2
        go_loop [21, 23] (fun z i => ∃ m : Int, z = .int .i64 m ∧ i = .int .i64 0 ∧ 0 ≤ m ∧ m ≤ 1048576) (fun _ _ => 0)
        case atStart => exact ⟨_, rfl, rfl, by omega, by omega⟩
        case round =>
          obtain ⟨m, rfl, rfl, hm0, hm⟩ := hrel
          go_wp2
          all_goals
            go_ret
            exact ⟨AnyBool.mk _, rfl⟩
      · go_wp2
        go_loop [21, 23] (fun z i => ∃ (k : Nat) (m : Int), k ≤ n' ∧ i = .int .i64 k ∧ z = .int .i64 m ∧ 0 ≤ m ∧ m ≤ 1048576) (fun _ i => n' - (intOf i).toNat)
        case atStart => exact ⟨0, _, Nat.zero_le _, rfl, rfl, by omega, by omega⟩
        case round =>
          obtain ⟨k, m, hk, rfl, rfl, hm0, hm⟩ := hrel
          by_cases hlt : k < n'
          · obtain ⟨d0, d1, d2⟩ := hc' k hlt
            have s1 := hs' k hlt
            unfold maxLen at s1
            have s1' : ((S k).size : Int) ≤ 9223372036854775807 := by omega
            clear hc' hs' s1 d0 d2
            by_cases t1 : 1048576 < ((S k).size : Int)
            · go_wp2
              go_ret
              exact ⟨AnyBool.mk _, rfl⟩
            by_cases t2 : 1048576 < m + ((S k).size : Int)
            · go_wp2
              go_ret
              exact ⟨AnyBool.mk _, rfl⟩
            go_wp2
            go_round
            case rel => exact ⟨k + 1, _, by omega, by go_num, rfl, by omega, by omega⟩
            case measure => simp [intOf]; omega
          · clear hc' hs'
            go_wp2
            all_goals
              go_ret
              exact ⟨AnyBool.mk _, rfl⟩
  · go_enter Try.func15, Try.ntmps15
    go_wp2
    go_loop [21, 22] (fun z i => ∃ (k : Nat) (m : Int), k ≤ n ∧ i = .int .i64 k ∧ z = .int .i64 m ∧ 0 ≤ m ∧ m ≤ 1048576) (fun _ i => n - (intOf i).toNat)
    case atStart => exact ⟨0, n, by omega, rfl, rfl, by omega, by omega⟩
    case round =>
      obtain ⟨k, m0, hk, rfl, rfl, hm0, hm⟩ := hrel
      by_cases hlt : k < n
      · obtain ⟨c0, c1, c2⟩ := hc k hlt
        obtain ⟨s0, s1, s2⟩ := hs k hlt
        unfold maxLen at s0 s1 s2
        have s0' : ((T k).size : Int) ≤ 9223372036854775807 := by omega
        have s1' : ((N k).size : Int) ≤ 9223372036854775807 := by omega
        have s2' : ((E k).size : Int) ≤ 9223372036854775807 := by omega
        clear hc hs s0 s1 s2
        by_cases t1 : 1048576 < ((T k).size : Int)
        · go_wp2
          go_ret
          exact ⟨AnyBool.mk _, rfl⟩
        by_cases t2 : 1048576 < m0 + ((T k).size : Int)
        · go_wp2
          go_ret
          exact ⟨AnyBool.mk _, rfl⟩
        by_cases t3 : 1048576 < ((N k).size : Int)
        · go_wp2
          go_ret
          exact ⟨AnyBool.mk _, rfl⟩
        by_cases t4 : 1048576 < m0 + ((T k).size : Int) + ((N k).size : Int)
        · go_wp2
          go_ret
          exact ⟨AnyBool.mk _, rfl⟩
        by_cases t5 : 1048576 < ((E k).size : Int)
        · go_wp2
          go_ret
          exact ⟨AnyBool.mk _, rfl⟩
        by_cases t6 : 1048576 < m0 + ((T k).size : Int) + ((N k).size : Int) + ((E k).size : Int)
        · go_wp2
          go_ret
          exact ⟨AnyBool.mk _, rfl⟩
        go_wp2
        go_round
        case rel => exact ⟨k + 1, _, by omega, by go_num, rfl, by omega, by omega⟩
        case measure => simp [intOf]; omega
      · clear hc hs
        have hM := HM.out
        by_cases u1 : 1048576 < (n' : Int)
        · go_wp2
          go_ret
          exact ⟨AnyBool.mk _, rfl⟩
        by_cases u2 : 1048576 < m0 + (n' : Int)
        · go_wp2
          go_ret
          exact ⟨AnyBool.mk _, rfl⟩
        obtain ⟨h0' | ⟨b', off', rfl, hb', hc'⟩, hs'⟩ := hM
        · subst h0'
          go_wp2
          go_loop [21, 23] (fun z i => ∃ m : Int, z = .int .i64 m ∧ i = .int .i64 0 ∧ 0 ≤ m ∧ m ≤ 1048576) (fun _ _ => 0)
          case atStart => exact ⟨_, rfl, rfl, by omega, by omega⟩
          case round =>
            obtain ⟨m, rfl, rfl, hm0, hm⟩ := hrel
            go_wp2
            all_goals
              go_ret
              exact ⟨AnyBool.mk _, rfl⟩
        · go_wp2
          go_loop [21, 23] (fun z i => ∃ (k : Nat) (m : Int), k ≤ n' ∧ i = .int .i64 k ∧ z = .int .i64 m ∧ 0 ≤ m ∧ m ≤ 1048576) (fun _ i => n' - (intOf i).toNat)
          case atStart => exact ⟨0, _, Nat.zero_le _, rfl, rfl, by omega, by omega⟩
          case round =>
            obtain ⟨k, m, hk, rfl, rfl, hm0, hm⟩ := hrel
            by_cases hlt : k < n'
            · obtain ⟨d0, d1, d2⟩ := hc' k hlt
              have s1 := hs' k hlt
              unfold maxLen at s1
              have s1' : ((S k).size : Int) ≤ 9223372036854775807 := by omega
              clear hc' hs' s1 d0 d2
              by_cases t1 : 1048576 < ((S k).size : Int)
              · go_wp2
                go_ret
                exact ⟨AnyBool.mk _, rfl⟩
              by_cases t2 : 1048576 < m + ((S k).size : Int)
              · go_wp2
                go_ret
                exact ⟨AnyBool.mk _, rfl⟩
              go_wp2
              go_round
              case rel => exact ⟨k + 1, _, by omega, by go_num, rfl, by omega, by omega⟩
              case measure => simp [intOf]; omega
            · clear hc' hs'
              go_wp2
              all_goals
                go_ret
                exact ⟨AnyBool.mk _, rfl⟩

end Go.Proofs.Qxb6612310a

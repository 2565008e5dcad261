import Derived.Test.Qxb6612374aShape
namespace Go.Proofs.Qxb6612374a
open Go.RowKit Plain
set_option linter.unusedVariables false
set_option linter.unusedSimpArgs false

theorem lv_iff (n k : Nat) (hn : n ≤ 65536) (hk : k ≤ top n) : 1 < lv n k ↔ k < top n :=
  ⟨fun h => by
    by_cases e : k < top n
    · exact e
    · have := lv_top n hn
      rw [show top n = k by omega] at this
      omega, lv_below n k hn⟩

set_option maxHeartbeats 1000000 in
theorem modelShape_any (pages n : Nat) (w : World) (hp : (pages : Int) ≤ 2134900736) (hn : Hid (n = (pages + 32575) / 32576)) :
    Calls Try.prog 15 #[.int .u64 pages] w fun e w' => ∃ v, e = .returned v ∧ w'.ownsRow w.heap.size 3 1 v (top n + 1) (lvs n (top n)) ∧ Below w.heap.size w w' := by
  obtain ⟨i0, hi, hz0, hz1, hz2⟩ := info_parts info3
  have HN6 : Hid (n ≤ 65536) := by show n ≤ 65536; rw [hn.out]; omega
  by_cases hr : pages % 32576 = 0
  · have hr' : ((pages : Int) % 32576 != 0) = false := by rw [bne_eq_false_iff_eq]; omega
    have HE : Hid ((pages : Int) / 32576 = (n : Int)) := by
      show _ = _
      rw [hn.out]
      omega
    clear hr
    go_enter Try.func15, Try.ntmps15
    go_wp2_with fail
    rw [HE.out]
    clear hp hr'
    go_loopw [4, 5, 6] (fun v p x wr => ∃ k : Nat, k ≤ top n ∧ p = .int .i64 (339 ^ k : Nat) ∧ x = .int .i64 (lv n k) ∧ wr.ownsRow w.heap.size 3 1 v (k + 1) (lvs n k) ∧ Below w.heap.size w wr) (fun _ _ x _ => (intOf x).toNat)
    case atStart =>
      exact ⟨0, Nat.zero_le _, rfl, rfl, World.ownsRow_lit w #[.int .i64 (n : Int)] 1 (Nat.le_refl _) (by unfold maxLen; omega) rfl, (Below.refl _ _).alloc (Nat.le_refl _) _⟩
    case round =>
      obtain ⟨k, hk, rfl, rfl, hown, hbel⟩ := hrel
      have ht2 : k ≤ 2 := Nat.le_trans hk (top_le n)
      have HK : Hid (k ≤ top n) := hk
      have HB0 : Hid (Below w.heap.size w wr) := hbel
      have hsz := hbel.size
      have HL : Hid (1 < lv n k ↔ k < top n) := lv_iff n k HN6.out hk
      have hl6 := lv_le n HN6.out k
      obtain ⟨x, hx⟩ : ∃ x, x = lv n k := ⟨_, rfl⟩
      obtain ⟨p, hp0⟩ : ∃ p, p = 339 ^ k := ⟨_, rfl⟩
      have HX : Hid (x = lv n k) := hx
      have HP : Hid (p = 339 ^ k) := hp0
      rw [← hx] at hl6 ⊢
      rw [← hp0]
      clear hx hk hbel hp0
      have hl6' : (x : Int) ≤ 65536 := by omega
      have hn6' : (n : Int) ≤ 65536 := by have := HN6.out; omega
      clear hl6
      by_cases hgt : 1 < x
      · have hlt : Hid (k < top n) := HL.out.1 (HX.out ▸ hgt)
        have hk1 : k ≤ 1 := by have := hlt.out; have := top_le n; omega
        have hpb : 1 ≤ p ∧ p ≤ 339 := by
          rw [HP.out]
          rcases (show k = 0 ∨ k = 1 by omega) with rfl | rfl <;> decide
        have hp1 : (1 : Int) ≤ p := by omega
        have hp2 : (p : Int) ≤ 339 := by omega
        have hgt' : (1 : Int) < x := by omega
        have HPS : Hid (p * 339 = 339 ^ (k + 1)) := by
          show _ = _
          rw [HP.out, Nat.pow_succ]
        have HN : Hid (lv n (k + 1) = n / (p * 339) + (if n % (p * 339) ≠ 0 then 1 else 0)) := by
          show _ = _
          rw [HPS.out]
          exact lv_span n (k + 1) HN6.out (by omega)
        have HNX : Hid (lv n (k + 1) < x) := by
          show (lv n k + 338) / 339 < x
          rw [← HX.out]
          omega
        have HQ : Hid ((n : Int) / ((p : Int) * 339) = ((n / (p * 339) : Nat) : Int)) := by
          show _ = _
          simp
        have HR : Hid ((n : Int) % ((p : Int) * 339) = ((n % (p * 339) : Nat) : Int)) := by
          show _ = _
          simp
        have hq0 : 0 ≤ (n : Int) / ((p : Int) * 339) := by rw [HQ.out]; exact Int.natCast_nonneg _
        have hq1 : (n : Int) / ((p : Int) * 339) ≤ 65536 := by
          rw [HQ.out]
          have := Nat.div_le_self n (p * 339)
          omega
        clear hpb ht2 hgt
        by_cases hrem : n % (p * 339) = 0
        · have hrem' : ((n : Int) % ((p : Int) * 339) != 0) = false := by rw [HR.out, bne_eq_false_iff_eq]; omega
          have HV : Hid ((n : Int) / ((p : Int) * 339) = ((lv n (k + 1) : Nat) : Int)) := by
            show _ = _
            rw [HN.out, HQ.out, if_neg (by simp [hrem])]
            rfl
          clear hrem
          go_wp2_with (at_builtin; refine wpList_append_own _ rfl _ _ 35 rfl w.heap.size 3 i0 (.int .i64 0) 1 8 Try.underlying35 hi hz0 hz1 hz2 rfl (by decide) _ _ _ rfl (hown.alloc _) ⟨wr.heap.size, 0, none⟩ 1 1 [.int .i64 ((n : Int) / ((p : Int) * 339))] rfl rfl (cell_one_new _ _ _) (one_cell _ rfl) (by unfold maxLen; omega) (by omega) (by simp; omega) ?_; intro v' w1 hown' hgrow _)
          have HO : Hid (w1.ownsRow w.heap.size 3 1 v' (k + 1 + 1) (lvs n (k + 1))) := by
            show World.ownsRow _ _ _ _ _ _ _
            rw [lvs_succ, ← HV.out]
            exact hown'
          have HB : Hid (Below w.heap.size w w1) := (HB0.out.alloc hsz _).grown hgrow (by simp; omega) (fun j hj => (hown.lt j hj).1)
          clear hown' hgrow hown
          go_wp2_with fail
          go_roundw
          case rel => exact ⟨k + 1, hlt.out, by rw [← HPS.out]; simp, by rw [HV.out], HO.out, HB.out⟩
          case measure => simp only [intOf]; rw [HV.out]; have := HNX.out; omega
        · have hrem' : ((n : Int) % ((p : Int) * 339) != 0) = true := by rw [HR.out, bne_iff_ne]; omega
          have HV : Hid ((n : Int) / ((p : Int) * 339) + 1 = ((lv n (k + 1) : Nat) : Int)) := by
            show _ = _
            rw [HN.out, HQ.out, if_pos hrem]
            rfl
          clear hrem
          go_wp2_with (at_builtin; refine wpList_append_own _ rfl _ _ 35 rfl w.heap.size 3 i0 (.int .i64 0) 1 8 Try.underlying35 hi hz0 hz1 hz2 rfl (by decide) _ _ _ rfl (hown.alloc _) ⟨wr.heap.size, 0, none⟩ 1 1 [.int .i64 ((n : Int) / ((p : Int) * 339) + 1)] rfl rfl (cell_one_new _ _ _) (one_cell _ rfl) (by unfold maxLen; omega) (by omega) (by simp; omega) ?_; intro v' w1 hown' hgrow _)
          have HO : Hid (w1.ownsRow w.heap.size 3 1 v' (k + 1 + 1) (lvs n (k + 1))) := by
            show World.ownsRow _ _ _ _ _ _ _
            rw [lvs_succ, ← HV.out]
            exact hown'
          have HB : Hid (Below w.heap.size w w1) := (HB0.out.alloc hsz _).grown hgrow (by simp; omega) (fun j hj => (hown.lt j hj).1)
          clear hown' hgrow hown
          go_wp2_with fail
          go_roundw
          case rel => exact ⟨k + 1, hlt.out, by rw [← HPS.out]; simp, by rw [HV.out], HO.out, HB.out⟩
          case measure => simp only [intOf]; rw [HV.out]; have := HNX.out; omega
      · have e : top n = k := by
          have h1 := HK.out
          have h2 := HL.out
          rw [← HX.out] at h2
          omega
        rw [← e] at hown
        have HO : Hid (wr.ownsRow w.heap.size 3 1 u4 (top n + 1) (lvs n (top n))) := hown
        clear e hown ht2
        have hgt' : ¬ (1 : Int) < x := by omega
        go_wp2_with fail
        go_ret
        exact ⟨_, rfl, HO.out, HB0.out⟩
  · have hr' : ((pages : Int) % 32576 != 0) = true := by rw [bne_iff_ne]; omega
    have HE : Hid ((pages : Int) / 32576 + 1 = (n : Int)) := by
      show _ = _
      rw [hn.out]
      omega
    clear hr
    go_enter Try.func15, Try.ntmps15
    go_wp2_with fail
    rw [HE.out]
    clear hp hr'
    go_loopw [4, 5, 6] (fun v p x wr => ∃ k : Nat, k ≤ top n ∧ p = .int .i64 (339 ^ k : Nat) ∧ x = .int .i64 (lv n k) ∧ wr.ownsRow w.heap.size 3 1 v (k + 1) (lvs n k) ∧ Below w.heap.size w wr) (fun _ _ x _ => (intOf x).toNat)
    case atStart =>
      exact ⟨0, Nat.zero_le _, rfl, rfl, World.ownsRow_lit w #[.int .i64 (n : Int)] 1 (Nat.le_refl _) (by unfold maxLen; omega) rfl, (Below.refl _ _).alloc (Nat.le_refl _) _⟩
    case round =>
      obtain ⟨k, hk, rfl, rfl, hown, hbel⟩ := hrel
      have ht2 : k ≤ 2 := Nat.le_trans hk (top_le n)
      have HK : Hid (k ≤ top n) := hk
      have HB0 : Hid (Below w.heap.size w wr) := hbel
      have hsz := hbel.size
      have HL : Hid (1 < lv n k ↔ k < top n) := lv_iff n k HN6.out hk
      have hl6 := lv_le n HN6.out k
      obtain ⟨x, hx⟩ : ∃ x, x = lv n k := ⟨_, rfl⟩
      obtain ⟨p, hp0⟩ : ∃ p, p = 339 ^ k := ⟨_, rfl⟩
      have HX : Hid (x = lv n k) := hx
      have HP : Hid (p = 339 ^ k) := hp0
      rw [← hx] at hl6 ⊢
      rw [← hp0]
      clear hx hk hbel hp0
      have hl6' : (x : Int) ≤ 65536 := by omega
      have hn6' : (n : Int) ≤ 65536 := by have := HN6.out; omega
      clear hl6
      by_cases hgt : 1 < x
      · have hlt : Hid (k < top n) := HL.out.1 (HX.out ▸ hgt)
        have hk1 : k ≤ 1 := by have := hlt.out; have := top_le n; omega
        have hpb : 1 ≤ p ∧ p ≤ 339 := by
          rw [HP.out]
          rcases (show k = 0 ∨ k = 1 by omega) with rfl | rfl <;> decide
        have hp1 : (1 : Int) ≤ p := by omega
        have hp2 : (p : Int) ≤ 339 := by omega
        have hgt' : (1 : Int) < x := by omega
        have HPS : Hid (p * 339 = 339 ^ (k + 1)) := by
          show _ = _
          rw [HP.out, Nat.pow_succ]
        have HN : Hid (lv n (k + 1) = n / (p * 339) + (if n % (p * 339) ≠ 0 then 1 else 0)) := by
          show _ = _
          rw [HPS.out]
          exact lv_span n (k + 1) HN6.out (by omega)
        have HNX : Hid (lv n (k + 1) < x) := by
          show (lv n k + 338) / 339 < x
          rw [← HX.out]
          omega
        have HQ : Hid ((n : Int) / ((p : Int) * 339) = ((n / (p * 339) : Nat) : Int)) := by
          show _ = _
          simp
        have HR : Hid ((n : Int) % ((p : Int) * 339) = ((n % (p * 339) : Nat) : Int)) := by
          show _ = _
          simp
        have hq0 : 0 ≤ (n : Int) / ((p : Int) * 339) := by rw [HQ.out]; exact Int.natCast_nonneg _
        have hq1 : (n : Int) / ((p : Int) * 339) ≤ 65536 := by
          rw [HQ.out]
          have := Nat.div_le_self n (p * 339)
          omega
        clear hpb ht2 hgt
        by_cases hrem : n % (p * 339) = 0
        · have hrem' : ((n : Int) % ((p : Int) * 339) != 0) = false := by rw [HR.out, bne_eq_false_iff_eq]; omega
          have HV : Hid ((n : Int) / ((p : Int) * 339) = ((lv n (k + 1) : Nat) : Int)) := by
            show _ = _
            rw [HN.out, HQ.out, if_neg (by simp [hrem])]
            rfl
          clear hrem
          go_wp2_with (at_builtin; refine wpList_append_own _ rfl _ _ 35 rfl w.heap.size 3 i0 (.int .i64 0) 1 8 Try.underlying35 hi hz0 hz1 hz2 rfl (by decide) _ _ _ rfl (hown.alloc _) ⟨wr.heap.size, 0, none⟩ 1 1 [.int .i64 ((n : Int) / ((p : Int) * 339))] rfl rfl (cell_one_new _ _ _) (one_cell _ rfl) (by unfold maxLen; omega) (by omega) (by simp; omega) ?_; intro v' w1 hown' hgrow _)
          have HO : Hid (w1.ownsRow w.heap.size 3 1 v' (k + 1 + 1) (lvs n (k + 1))) := by
            show World.ownsRow _ _ _ _ _ _ _
            rw [lvs_succ, ← HV.out]
            exact hown'
          have HB : Hid (Below w.heap.size w w1) := (HB0.out.alloc hsz _).grown hgrow (by simp; omega) (fun j hj => (hown.lt j hj).1)
          clear hown' hgrow hown
          go_wp2_with fail
          go_roundw
          case rel => exact ⟨k + 1, hlt.out, by rw [← HPS.out]; simp, by rw [HV.out], HO.out, HB.out⟩
          case measure => simp only [intOf]; rw [HV.out]; have := HNX.out; omega
        · have hrem' : ((n : Int) % ((p : Int) * 339) != 0) = true := by rw [HR.out, bne_iff_ne]; omega
          have HV : Hid ((n : Int) / ((p : Int) * 339) + 1 = ((lv n (k + 1) : Nat) : Int)) := by
            show _ = _
            rw [HN.out, HQ.out, if_pos hrem]
            rfl
          clear hrem
          go_wp2_with (at_builtin; refine wpList_append_own _ rfl _ _ 35 rfl w.heap.size 3 i0 (.int .i64 0) 1 8 Try.underlying35 hi hz0 hz1 hz2 rfl (by decide) _ _ _ rfl (hown.alloc _) ⟨wr.heap.size, 0, none⟩ 1 1 [.int .i64 ((n : Int) / ((p : Int) * 339) + 1)] rfl rfl (cell_one_new _ _ _) (one_cell _ rfl) (by unfold maxLen; omega) (by omega) (by simp; omega) ?_; intro v' w1 hown' hgrow _)
          have HO : Hid (w1.ownsRow w.heap.size 3 1 v' (k + 1 + 1) (lvs n (k + 1))) := by
            show World.ownsRow _ _ _ _ _ _ _
            rw [lvs_succ, ← HV.out]
            exact hown'
          have HB : Hid (Below w.heap.size w w1) := (HB0.out.alloc hsz _).grown hgrow (by simp; omega) (fun j hj => (hown.lt j hj).1)
          clear hown' hgrow hown
          go_wp2_with fail
          go_roundw
          case rel => exact ⟨k + 1, hlt.out, by rw [← HPS.out]; simp, by rw [HV.out], HO.out, HB.out⟩
          case measure => simp only [intOf]; rw [HV.out]; have := HNX.out; omega
      · have e : top n = k := by
          have h1 := HK.out
          have h2 := HL.out
          rw [← HX.out] at h2
          omega
        rw [← e] at hown
        have HO : Hid (wr.ownsRow w.heap.size 3 1 u4 (top n + 1) (lvs n (top n))) := hown
        clear e hown ht2
        have hgt' : ¬ (1 : Int) < x := by omega
        go_wp2_with fail
        go_ret
        exact ⟨_, rfl, HO.out, HB0.out⟩

end Go.Proofs.Qxb6612374a

import Derived.Test.Qxb6612374aMap
namespace Go.Proofs.Qxb6612374a
open Go.RowKit Plain
set_option linter.unusedVariables false
set_option linter.unusedSimpArgs false

theorem hide {p : Prop} (h : p) : Hid p := h
theorem info3 : (Try.prog.info? 3).map (fun i => (i.zero, i.size, i.bytes)) = some (some (.int .i64 0), 1, 8) := by kernel_rfl

/-- The levels 0 .. k as cells. -/
def lvs (n k : Nat) : List Value := (List.range (k + 1)).map fun l => .int .i64 (lv n l)
theorem lvs_succ (n k : Nat) : lvs n (k + 1) = lvs n k ++ [.int .i64 (lv n (k + 1))] := by
  unfold lvs
  rw [List.range_succ (n := k + 1), List.map_append]
  rfl

theorem one_cell (v : Value) (h : v.oneCell' = true) : ∀ u ∈ [v], u.oneCell' = true := by
  intro u hu
  simp at hu
  subst hu
  exact h

set_option maxHeartbeats 1000000 in
theorem listShape_any (pages n : Nat) (w : World) (hp : pages ≤ 2134900736) (hn : Hid (n = (pages + 32575) / 32576)) :
    Calls Try.prog 23 #[.int .u64 pages] w fun e w' => ∃ v, e = .returned v ∧ w'.ownsRow w.heap.size 3 1 v (top n + 1) (lvs n (top n)) ∧ Below w.heap.size w w' := by
  obtain ⟨i0, hi, hz0, hz1, hz2⟩ := info_parts info3
  have hn6 : n ≤ 65536 := by rw [hn.out]; omega
  have HE : Hid (((pages : Int) + 32576 - 1) / 32576 = (n : Int)) := by
    show _ = _
    rw [hn.out]
    omega
  go_enter Try.func23, Try.ntmps23
  go_wp2_with fail
  rw [HE.out]
  go_loopw [3, 4] (fun x v wr => ∃ k : Nat, k ≤ top n ∧ x = .int .i64 (lv n k) ∧ wr.ownsRow w.heap.size 3 1 v (k + 1) (lvs n k) ∧ Below w.heap.size w wr) (fun x _ _ => (intOf x).toNat)
  case atStart =>
    exact ⟨0, Nat.zero_le _, rfl, World.ownsRow_lit w #[.int .i64 (n : Int)] 1 (Nat.le_refl _) (by unfold maxLen; omega) rfl, (Below.refl _ _).alloc (Nat.le_refl _) _⟩
  case round =>
    obtain ⟨k, hk, rfl, hown, hbel⟩ := hrel
    have ht2 : k ≤ 2 := Nat.le_trans hk (top_le n)
    have HK : Hid (k ≤ top n) := hk
    have HB0 : Hid (Below w.heap.size w wr) := hbel
    have hsz := hbel.size
    have HL : Hid (1 < lv n k ↔ k < top n) := ⟨fun h => by
      by_cases e : k < top n
      · exact e
      · have := lv_top n hn6
        rw [show top n = k by omega] at this
        omega, lv_below n k hn6⟩
    have hl6 := lv_le n hn6 k
    obtain ⟨x, hx⟩ : ∃ x, x = lv n k := ⟨_, rfl⟩
    have HX : Hid (x = lv n k) := hx
    rw [← hx] at hl6 ⊢
    clear hx hk hbel
    by_cases hgt : 1 < x
    · have hlt : Hid (k < top n) := HL.out.1 (HX.out ▸ hgt)
      have HN : Hid (((x : Int) + 339 - 1) / 339 = ((lv n (k + 1) : Nat) : Int)) := by
        show _ = (((lv n k + 338) / 339 : Nat) : Int)
        rw [← HX.out]
        omega
      clear hn6 hp
      have hgt' : (1 : Int) < x := by omega
      have hl6' : (x : Int) ≤ 65536 := by omega
      clear hl6
      go_wp2_with (at_builtin; refine wpList_append_own _ rfl _ _ 35 rfl w.heap.size 3 i0 (.int .i64 0) 1 8 Try.underlying35 hi hz0 hz1 hz2 rfl (by decide) _ _ _ rfl (hown.alloc _) ⟨wr.heap.size, 0, none⟩ 1 1 [.int .i64 (((x : Int) + 339 - 1) / 339)] rfl rfl (cell_one_new _ _ _) (one_cell _ rfl) (by unfold maxLen; omega) (by omega) (by simp; omega) ?_; intro v' w1 hown' hgrow _)
      have HO : Hid (w1.ownsRow w.heap.size 3 1 v' (k + 1 + 1) (lvs n (k + 1))) := by
        show World.ownsRow _ _ _ _ _ _ _
        rw [lvs_succ, ← HN.out]
        exact hown'
      have HB : Hid (Below w.heap.size w w1) := (HB0.out.alloc hsz _).grown hgrow (by simp; omega) (fun j hj => (hown.lt j hj).1)
      clear hown' hgrow hown
      go_wp2_with fail
      go_roundw
      case rel => exact ⟨k + 1, hlt.out, by rw [HN.out], HO.out, HB.out⟩
      case measure => simp only [intOf]; omega
    · have e : top n = k := by
        have h1 := HK.out
        have h2 := HL.out
        rw [← HX.out] at h2
        omega
      rw [← e] at hown
      have HO : Hid (wr.ownsRow w.heap.size 3 1 u4 (top n + 1) (lvs n (top n))) := hown
      clear e hown
      clear hn6 hp
      have hgt' : ¬ (1 : Int) < x := by omega
      go_wp2_with fail
      go_ret
      exact ⟨_, rfl, HO.out, HB0.out⟩

end Go.Proofs.Qxb6612374a

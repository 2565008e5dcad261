import Derived.Test.Qxb6612310aMake
namespace Go.Proofs.Qxb6612310a
open Go.RowKit Plain
set_option linter.unusedVariables false
set_option linter.unusedSimpArgs false

theorem newMatch_any (ad : Addr) (s : ByteArray) (l : Int) (w : World) :
    Calls Try.prog 17 #[.pointer (some ad), .string s, .int .i64 l] w fun e w' => e = .returned (.agg #[.pointer (some ad), .string s, .int .i64 l]) ∧ w' = w.alloc (.cells #[.pointer (some ad), .string s, .int .i64 l] 56) := by
  go_enter Try.func17, Try.ntmps17
  go_wp2
  exact bodyPost_ret (v := .agg #[.pointer (some ad), .string s, .int .i64 l]) (by simp [results, Try.results17, go_sem]) rfl ⟨rfl, rfl⟩

/-- One match's cells. -/
structure MatAt (w : World) (g o : Nat) (v0 v1 v2 : Value) : Prop where
  c0 : w.cell? ⟨g, o, none⟩ = some v0
  c1 : w.cell? ⟨g, o + 1, none⟩ = some v1
  c2 : w.cell? ⟨g, o + 2, none⟩ = some v2
  f0 : w.frozen? ⟨g, o, none⟩ = false
  f1 : w.frozen? ⟨g, o + 1, none⟩ = false
  f2 : w.frozen? ⟨g, o + 2, none⟩ = false

/-- The row of matches, filled up to k: the pattern of match i lies at ⟨gp, p i * 5⟩. -/
def MatRow (w : World) (g gp n k : Nat) (p : Nat → Nat) (S : Nat → ByteArray) (L : Nat → Int) : Prop :=
  ∀ i, i < n → ∃ v0 v1 v2, MatAt w g (i * 3) v0 v1 v2 ∧ (i < k → v0 = .pointer (some ⟨gp, p i * 5, none⟩) ∧ v1 = .string (S i) ∧ v2 = .int .i64 (L i))

theorem made_cell3 {w : World} {B g n : Nat} (z0 z1 z2 : Value) (h : w.ownsRow B 56 3 (.slice (some ⟨g, 0, none⟩) n n) n (madeCells #[z0, z1, z2] (n * 3)).toList) (i f : Nat) (hi : i < n) (hf : f < 3) : w.cell? ⟨g, i * 3 + f, none⟩ = #[z0, z1, z2][f]? := by
  rw [h.cellAt (i * 3 + f) (by omega)]
  rw [← Array.getElem?_toList] at *
  unfold madeCells
  simp [show i * 3 + f < n * 3 by omega, show (i * 3 + f) % 3 = f by omega]
  rcases (show f = 0 ∨ f = 1 ∨ f = 2 by omega) with rfl | rfl | rfl <;> rfl

theorem MatRow_made {w : World} {B g gp n : Nat} (p : Nat → Nat) (S : Nat → ByteArray) (L : Nat → Int) (h : w.ownsRow B 56 3 (.slice (some ⟨g, 0, none⟩) n n) n (madeCells #[.pointer none, .string ByteArray.empty, .int .i64 0] (n * 3)).toList) : MatRow w g gp n 0 p S L := by
  intro i hi
  refine ⟨_, _, _, ⟨made_cell3 _ _ _ h i 0 hi (by omega), made_cell3 _ _ _ h i 1 hi (by omega), made_cell3 _ _ _ h i 2 hi (by omega), h.frozenAt _, h.frozenAt _, h.frozenAt _⟩, fun h => absurd h (Nat.not_lt_zero _)⟩

theorem MatRow.below {w w' : World} {g gp n k : Nat} {p : Nat → Nat} {S : Nat → ByteArray} {L : Nat → Int} (h : MatRow w g gp n k p S L) {B : Nat} (hb : Below B w w') (hg : g < B) : MatRow w' g gp n k p S L := by
  intro i hi
  obtain ⟨v0, v1, v2, m, he⟩ := h i hi
  exact ⟨v0, v1, v2, ⟨(hb.cell (p := ⟨g, _, none⟩) hg).trans m.c0, (hb.cell (p := ⟨g, _, none⟩) hg).trans m.c1, (hb.cell (p := ⟨g, _, none⟩) hg).trans m.c2, (hb.frozen (p := ⟨g, _, none⟩) hg).trans m.f0, (hb.frozen (p := ⟨g, _, none⟩) hg).trans m.f1, (hb.frozen (p := ⟨g, _, none⟩) hg).trans m.f2⟩, he⟩

theorem PatRow.below {w w' : World} {g n k : Nat} {T N E : Nat → ByteArray} (h : PatRow w g n k T N E) {B : Nat} (hb : Below B w w') (hg : g < B) : PatRow w' g n k T N E := by
  intro i hi
  obtain ⟨v0, v1, v2, m, he⟩ := h i hi
  exact ⟨v0, v1, v2, ⟨(hb.cell (p := ⟨g, _, none⟩) hg).trans m.c0, (hb.cell (p := ⟨g, _, none⟩) hg).trans m.c1, (hb.cell (p := ⟨g, _, none⟩) hg).trans m.c3, (hb.frozen (p := ⟨g, _, none⟩) hg).trans m.f0, (hb.frozen (p := ⟨g, _, none⟩) hg).trans m.f1, (hb.frozen (p := ⟨g, _, none⟩) hg).trans m.f3⟩, he⟩

theorem MatRow_next {w : World} {g gp n k : Nat} {p : Nat → Nat} {S : Nat → ByteArray} {L : Nat → Int} (h : MatRow w g gp n k p S L) (hk : k < n) :
    MatRow (((w.setCell ⟨g, k * 3, none⟩ (.pointer (some ⟨gp, p k * 5, none⟩))).setCell ⟨g, k * 3 + 1, none⟩ (.string (S k))).setCell ⟨g, k * 3 + 2, none⟩ (.int .i64 (L k))) g gp n (k + 1) p S L := by
  intro i hi
  obtain ⟨v0, v1, v2, m, he⟩ := h i hi
  have ne : ∀ o o', o ≠ o' → (⟨g, o, none⟩ : Addr) ≠ ⟨g, o', none⟩ := fun o o' h e => h (congrArg Addr.off e)
  by_cases ei : i = k
  · subst ei
    refine ⟨_, _, _, ⟨?_, ?_, ?_, by simpa using m.f0, by simpa using m.f1, by simpa using m.f2⟩, fun _ => ⟨rfl, rfl, rfl⟩⟩
    · rw [World.cell?_setCell_other _ _ _ _ (ne _ _ (by omega)), World.cell?_setCell_other _ _ _ _ (ne _ _ (by omega))]
      exact World.cell?_setCell_same _ _ _ m.c0
    · rw [World.cell?_setCell_other _ _ _ _ (ne _ _ (by omega))]
      exact World.cell?_setCell_same _ _ _ (by rw [World.cell?_setCell_other _ _ _ _ (ne _ _ (by omega))]; exact m.c1)
    · exact World.cell?_setCell_same _ _ _ (by rw [World.cell?_setCell_other _ _ _ _ (ne _ _ (by omega)), World.cell?_setCell_other _ _ _ _ (ne _ _ (by omega))]; exact m.c2)
  · refine ⟨v0, v1, v2, ⟨?_, ?_, ?_, by simpa using m.f0, by simpa using m.f1, by simpa using m.f2⟩, fun h => he (by omega)⟩
    · rw [World.cell?_setCell_other _ _ _ _ (ne _ _ (by omega)), World.cell?_setCell_other _ _ _ _ (ne _ _ (by omega)), World.cell?_setCell_other _ _ _ _ (ne _ _ (by omega))]
      exact m.c0
    · rw [World.cell?_setCell_other _ _ _ _ (ne _ _ (by omega)), World.cell?_setCell_other _ _ _ _ (ne _ _ (by omega)), World.cell?_setCell_other _ _ _ _ (ne _ _ (by omega))]
      exact m.c1
    · rw [World.cell?_setCell_other _ _ _ _ (ne _ _ (by omega)), World.cell?_setCell_other _ _ _ _ (ne _ _ (by omega)), World.cell?_setCell_other _ _ _ _ (ne _ _ (by omega))]
      exact m.c2

set_option maxHeartbeats 2000000 in
theorem matches_any {B : Nat} (gp np : Nat) (a : Option Addr) (n cap : Nat) (p : Nat → Nat) (S : Nat → ByteArray) (L : Nat → Int) (w : World) (hn : (n : Int) ≤ 4096) (hnp : (np : Int) ≤ 65536) (hp : ∀ i, i < n → p i < np) (hB : B ≤ w.heap.size) (hM : MsAt B w a n (fun i => (p i : Int)) S L) :
    Calls Try.prog 13 #[.slice (some ⟨gp, 0, none⟩) np np, .slice a n cap] w fun e w' => e = .returned (.slice (some ⟨w.heap.size, 0, none⟩) n n) ∧ MatRow w' w.heap.size gp n n p S L ∧ Below w.heap.size w w' := by
  obtain ⟨i0, hi, hz0, hz1, hz2⟩ := info_parts info56
  obtain ⟨h0 | ⟨b, off, rfl, hb, hc⟩, hs⟩ := hM
  · subst h0
    go_enter Try.func13, Try.ntmps13
    go_wp2_with (at_make; refine wpList_make_full _ rfl _ _ 36 rfl w.heap.size 56 i0 (.agg #[.pointer none, .string ByteArray.empty, .int .i64 0]) 3 Try.underlying36 hi hz0 hz1 _ _ _ _ 0 rfl rfl rfl rfl (by rw [hz2]; omega) (by unfold maxLen; omega) (Nat.le_refl _) ?_; intro w1 hown hgrow)
    have HB1 : Hid (Below w.heap.size w w1) := (Below.refl _ _).grown hgrow (Nat.le_refl _) (fun k e => by cases e)
    clear hown hgrow hi hz0 hz1 hz2
    go_loop [6] (fun u => u = .int .i64 0) (fun _ => 0)
    case atStart => rfl
    case round =>
      obtain rfl := hrel
      go_wp2_with fail
      go_ret
      exact ⟨rfl, fun i hi => absurd hi (Nat.not_lt_zero i), HB1.out⟩
  · go_enter Try.func13, Try.ntmps13
    go_wp2_with (at_make; refine wpList_make_full _ rfl _ _ 36 rfl w.heap.size 56 i0 (.agg #[.pointer none, .string ByteArray.empty, .int .i64 0]) 3 Try.underlying36 hi hz0 hz1 _ _ _ _ n rfl rfl rfl rfl (by rw [hz2]; omega) (by unfold maxLen; omega) (Nat.le_refl _) ?_; intro w1 hown hgrow)
    have HB1 : Hid (Below w.heap.size w w1) := (Below.refl _ _).grown hgrow (Nat.le_refl _) (fun k e => by cases e)
    have HR1 := hide (MatRow_made (gp := gp) p S L hown)
    have HZ1 : Hid (w.heap.size < w1.heap.size) := (hown.lt _ rfl).2
    clear hown hgrow hi hz0 hz1 hz2
    go_loopw [6] (fun u wr => ∃ k : Nat, k ≤ n ∧ u = .int .i64 k ∧ MatRow wr w.heap.size gp n k p S L ∧ Below w.heap.size w wr ∧ w.heap.size < wr.heap.size) (fun u _ => n - (intOf u).toNat)
    case atStart => exact ⟨0, Nat.zero_le _, rfl, HR1.out, HB1.out, HZ1.out⟩
    case round =>
      obtain ⟨k, hk, rfl, hR, hB', hZ⟩ := hrel
      have HR := hide hR
      have HB := hide hB'
      clear hR hB'
      by_cases hlt : k < n
      · obtain ⟨c0, c1, c2⟩ := hc k hlt
        have c0 := (HB.out.cell (p := ⟨b, off + k * 3, none⟩) (Nat.lt_of_lt_of_le hb hB)).trans c0
        have c1 := (HB.out.cell (p := ⟨b, off + k * 3 + 1, none⟩) (Nat.lt_of_lt_of_le hb hB)).trans c1
        have c2 := (HB.out.cell (p := ⟨b, off + k * 3 + 2, none⟩) (Nat.lt_of_lt_of_le hb hB)).trans c2
        obtain ⟨v0, v1, v2, m, _⟩ := HR.out k hlt
        have m0 := m.c0
        have m1 := m.c1
        have m2 := m.c2
        have q0 := m.f0
        have q1 := m.f1
        have q2 := m.f2
        have hbw : b < wr.heap.size := by omega
        have hbne : ¬ b = wr.heap.size := by omega
        have hbne' : ¬ wr.heap.size = b := by omega
        have hwne : ¬ w.heap.size = wr.heap.size := by omega
        have hwne' : ¬ wr.heap.size = w.heap.size := by omega
        have hpk := hp k hlt
        have hpk1 : ((p k : Nat) : Int) < np := by omega
        have hne : ¬ b = w.heap.size := by omega
        have hne' : ¬ w.heap.size = b := by omega
        clear m hpk
        go_wp2_with fail
        go_region_held3 (fun w' => w'.cell? ⟨b, off + k * 3, none⟩ = some (.int .i64 (p k)) ∧ w'.cell? ⟨b, off + k * 3 + 1, none⟩ = some (.string (S k)) ∧ w'.cell? ⟨b, off + k * 3 + 2, none⟩ = some (.int .i64 (L k))) (go_keep)
          (first | (go_at_call 17; refine (newMatch_any _ _ _ _).mono ?_; rintro e w' ⟨rfl, rfl⟩))
        clear c0 c1 c2 m0 m1 m2 q0 q1 q2
        go_wp2_with fail
        have HZ3 : w.heap.size + 1 ≤ (((wr.setCell ⟨w.heap.size, k * 3, none⟩ (.pointer (some ⟨gp, p k * 5, none⟩))).setCell ⟨w.heap.size, k * 3 + 1, none⟩ (.string (S k))).setCell ⟨w.heap.size, k * 3 + 2, none⟩ (.int .i64 (L k))).heap.size := by simp; omega
        have HR2 := MatRow_next HR.out hlt
        have HB2 := ((HB.out.setCell (p := ⟨w.heap.size, k * 3, none⟩) (Nat.le_refl _) (.pointer (some ⟨gp, p k * 5, none⟩))).setCell (p := ⟨w.heap.size, k * 3 + 1, none⟩) (Nat.le_refl _) (.string (S k))).setCell (p := ⟨w.heap.size, k * 3 + 2, none⟩) (Nat.le_refl _) (.int .i64 (L k))
        exact ⟨⟨k + 1, by omega, by go_num, HR2.below (((Below.refl _ _).alloc HZ3 _).drew) (Nat.lt_succ_self _), (HB2.alloc (by omega) _).drew, by simp; omega⟩, by simp [intOf]; omega⟩
      · obtain rfl : k = n := by omega
        go_wp2_with fail
        go_ret
        exact ⟨rfl, HR.out, HB.out⟩

end Go.Proofs.Qxb6612310a

import Derived.Test.Qxb6612374aFreshWalk
namespace Go.Proofs.Qxb6612374a
open Go.RowKit Plain
set_option linter.unusedVariables false
set_option linter.unusedSimpArgs false

set_option maxHeartbeats 2000000 in
theorem oneLeaf_main (pages : Nat) (a1 a2 : Int) (w : World) (hp : (pages : Int) ≤ 2134900736) (hp0 : ((pages : Int) == 0) = false) :
    Calls Try.prog 6 #[.int .u64 pages, .int .u64 a1, .int .u32 a2] w fun e w' => e = .returned (.bool true) ∧ Below w.heap.size w w' := by
  obtain ⟨n, hn⟩ : ∃ n, n = (pages + 32575) / 32576 := ⟨_, rfl⟩
  have HN := hide hn
  have HN6 : Hid (n ≤ 65536) := by show n ≤ 65536; omega
  have HP := hide hp
  have HN1 : Hid (1 ≤ n) := by
    have : (pages : Int) ≠ 0 := by simpa using hp0
    show 1 ≤ n
    omega
  clear hn
  go_enter Try.func6, Try.ntmps6
  go_wp2_with fail
  refine (newOne_any a1 a2 w).mono ?_
  rintro e w1 ⟨be, bo, bl, bw, rfl, hF, hb1⟩
  have HF := hide hF
  have HB1 := hide hb1
  clear hF hb1
  go_wp2_with fail
  refine (zcover (one := true) w.heap.size pages n w1 HP.out HN (fun _ => HN1.out) HF.out).mono ?_
  rintro e w2 ⟨rfl, hb2, L, hC⟩
  have HB2 := hide (HB1.out.trans hb2)
  have HC := hide hC
  clear hb2 hC HF HB1
  go_wp2_with fail
  refine (modelShape_any pages n w2 HP.out HN).mono ?_
  rintro e w3 ⟨v, rfl, hown, hb3⟩
  obtain ⟨g', cap', hv, _, hwant⟩ := shape_form hown
  rw [hv]
  have HC3 := hide (HC.out.still (grown_of_below hb3))
  have HB3 := hide (HB2.out.trans (hb3.mono HB2.out.size))
  clear hown hb3 hv HC HB2
  obtain ⟨g, cap, hsc, hgot⟩ := HC3.out.shp
  obtain ⟨t, ht⟩ : ∃ t, t = top n + 1 := ⟨_, rfl⟩
  have HT := hide ht
  rw [← ht] at hsc ⊢
  clear ht
  have HWANT := hide hwant
  have HGOT := hide hgot
  have HSC := hide hsc
  clear hwant hgot hsc hp hp0
  have ht3 : (t : Int) ≤ 3 := by have := HT.out; have := top_le n; omega
  go_wp2_with fail
  refine (zshape be (.slice (some ⟨g, 0, none⟩) t cap) w3 HSC.out ⟨_, _, _, rfl⟩).mono ?_
  rintro e w4 ⟨rfl, rfl⟩
  go_wp2_with fail
  go_loopw [10, 11] (fun c u wr => ∃ (l : Nat) (Vis : List (Nat × Nat)), l ≤ t ∧ u = .int .i64 l ∧ c = .int .i64 (Vis.length : Nat) ∧ Seen true w4 wr n l 0 Vis) (fun _ u _ => t - (intOf u).toNat)
  case atStart => exact ⟨0, [], Nat.zero_le _, rfl, rfl, Seen_start _ _⟩
  case round =>
    obtain ⟨l, Vis, hl, rfl, rfl, hS⟩ := hrel
    have HS := hide hS
    have hvf := hS.few HN6.out
    have hvf' : (Vis.length : Int) ≤ 196608 := by omega
    clear hS hvf
    by_cases hlt : l < t
    · have hlt2 : l ≤ top n := by have := HT.out; omega
      have ca := HS.out.grown.cell (HWANT.out l hlt2) (by simp)
      have cb := HS.out.grown.cell (HGOT.out l hlt2) (by simp)
      have hx6 := lv_le n HN6.out l
      obtain ⟨x, hx⟩ : ∃ x, x = lv n l := ⟨_, rfl⟩
      have HX := hide hx
      rw [← hx] at ca cb hx6
      have hx6' : (x : Int) ≤ 65536 := by omega
      have hlt' : (l : Int) < t := by omega
      have HL2 := hide hlt2
      clear hx hx6 hlt2
      go_wp2_with fail
      go_quiet (fail)
      go_wp2_with fail
      clear ca cb
      have HS0 := hide (show Seen true w4 (wr.drewN nq) n l 0 Vis from ⟨HS.out.nodup, HS.out.iff, HS.out.grown.trans (grown_drewN _ _ _)⟩)
      obtain ⟨wo, hwo⟩ : ∃ wo : World, wo = wr := ⟨_, rfl⟩
      clear hwo
      go_loopw [10, 12] (fun c u wi => ∃ (i : Nat) (Vi : List (Nat × Nat)), i ≤ x ∧ u = .int .i64 i ∧ c = .int .i64 (Vi.length : Nat) ∧ Seen true w4 wi n l i Vi) (fun _ u _ => x - (intOf u).toNat)
      case atStart => exact ⟨0, Vis, Nat.zero_le _, rfl, rfl, HS0.out⟩
      case round =>
        obtain ⟨i, Vi, hi, rfl, rfl, hSi⟩ := hrel
        have HSi := hide hSi
        have hvf := hSi.few HN6.out
        have hvi' : (Vi.length : Int) ≤ 196608 := by omega
        have ca : wr.cell? ⟨g', l, none⟩ = some (.int .i64 x) := by rw [HX.out]; exact hSi.grown.cell (HWANT.out l HL2.out) (by simp)
        clear hSi hvf
        by_cases hix : i < x
        · by_cases h00 : l = 0 ∧ i = 0
          · have HNot : Hid (¬ Plain.Node true n (l, i)) := fun h => h.2.2 rfl (by rw [h00.1, h00.2])
            have HCi := hide (HC3.out.still HSi.out.grown)
            have HNI : Hid ((l, i) ∉ L) := fun h => HNot.out (HCi.out.good _ h)
            have e1 : ((l : Int) == 0) = true := by simp; omega
            have e2 : ((i : Int) == 0) = true := by simp; omega
            have HL0 : Hid (l ≤ 2) := by show l ≤ 2; omega
            have HI0 : Hid (i ≤ 65536) := by show i ≤ 65536; omega
            clear h00
            go_wp2_with fail
            refine (zwrittenOut l i wr HCi.out.ed HCi.out.map HL0.out HI0.out HNI.out).mono ?_
            rintro e w' ⟨rfl, hg'⟩
            have HS' := hide (HSi.out.miss hg' HNot.out)
            clear hg'
            go_wp2_with fail
            go_roundw
            case rel => exact ⟨i + 1, Vi, by omega, by go_num, rfl, HS'.out⟩
            case measure => simp [intOf]; omega
          · have HNd : Hid (Plain.Node true n (l, i)) := ⟨HL2.out, by rw [← HX.out]; exact hix, fun _ e => h00 (by cases e; exact ⟨rfl, rfl⟩)⟩
            have HCi := hide (HC3.out.still HSi.out.grown)
            have HBD := hide (HNd.out.bounds HN6.out)
            have hcase : ((l : Int) == 0) = false ∨ (((l : Int) == 0) = true ∧ ((i : Int) == 0) = false) := by
              simp only [beq_eq_false_iff_ne, beq_iff_eq]
              omega
            clear h00
            rcases hcase with e1 | ⟨e1, e2⟩
            · go_wp2_with fail
              refine (zwrittenIn l i wr HCi.out.ed HCi.out.map HBD.out.1 (Nat.le_of_lt HBD.out.2) (HCi.out.all _ HNd.out (by have := HT.out; simp only [Ahead]; omega))).mono ?_
              rintro e w' ⟨rfl, hg'⟩
              have HS' := hide (HSi.out.hit hg' HNd.out)
              clear hg'
              go_wp2_with fail
              go_roundw
              case rel => exact ⟨i + 1, Vi ++ [(l, i)], by omega, by go_num, by simp, HS'.out⟩
              case measure => simp [intOf]; omega
            · go_wp2_with fail
              refine (zwrittenIn l i wr HCi.out.ed HCi.out.map HBD.out.1 (Nat.le_of_lt HBD.out.2) (HCi.out.all _ HNd.out (by have := HT.out; simp only [Ahead]; omega))).mono ?_
              rintro e w' ⟨rfl, hg'⟩
              have HS' := hide (HSi.out.hit hg' HNd.out)
              clear hg'
              go_wp2_with fail
              go_roundw
              case rel => exact ⟨i + 1, Vi ++ [(l, i)], by omega, by go_num, by simp, HS'.out⟩
              case measure => simp [intOf]; omega
        · have HS' := hide (HSi.out.level (show lv n l = i by rw [← HX.out]; omega))
          go_wp2_with fail
          go_roundw
          case rel => exact ⟨l + 1, Vi, by omega, by go_num, rfl, HS'.out⟩
          case measure => simp [intOf]; omega
    · have e : l = top n + 1 := by have := HT.out; omega
      have hSt := HS.out
      rw [e] at hSt
      have HCi := hide (HC3.out.still HS.out.grown)
      have hlen := hSt.all HCi.out
      have HGR := hide HS.out.grown
      rw [hlen] at hvf' ⊢
      clear hSt hlen e
      go_wp2_with fail
      refine (zcount wr HCi.out.ed HCi.out.map).mono ?_
      rintro e w5 ⟨rfl, rfl⟩
      go_wp2_with fail
      refine (zreleased w5 HCi.out.ed).mono ?_
      rintro e w6 ⟨rfl, rfl⟩
      go_wp2_with fail
      refine (zleaves w6 HCi.out.ed).mono ?_
      rintro e w7 ⟨rfl, rfl⟩
      go_wp2_with fail
      go_ret
      exact ⟨rfl, HB3.out.trans (below_of_grown HGR.out HB3.out.size)⟩

end Go.Proofs.Qxb6612374a

import Derived.Test.Qxb6612374aReads
namespace Go.Proofs.Qxb6612374a
open Go.RowKit Plain
set_option linter.unusedVariables false
set_option linter.unusedSimpArgs false

/-- What the law's loops know: Vis: the nodes looked at so far. -/
structure Seen (one : Bool) (wX wr : World) (n l i : Nat) (Vis : List (Nat × Nat)) : Prop where
  nodup : Vis.Nodup
  iff : ∀ x, x ∈ Vis ↔ Plain.Node one n x ∧ Ahead l i x
  grown : wX.grownBy wr none

theorem Seen.few {one : Bool} {wX wr : World} {n l i : Nat} {Vis : List (Nat × Nat)} (h : Seen one wX wr n l i Vis) (hn : n ≤ 65536) : Vis.length ≤ 196608 := nodes_few hn h.nodup (fun x hx => ((h.iff x).1 hx).1)

theorem Seen.hit {one : Bool} {wX wr w' : World} {n l i : Nat} {Vis : List (Nat × Nat)} (h : Seen one wX wr n l i Vis) (hg : wr.grownBy w' none) (hN : Plain.Node one n (l, i)) : Seen one wX w' n l (i + 1) (Vis ++ [(l, i)]) := by
  refine ⟨nodup_snoc h.nodup (fun hx => ?_), fun x => ?_, h.grown.trans hg⟩
  · have := ((h.iff _).1 hx).2
    simp only [Ahead] at this
    omega
  · rw [ahead_next, List.mem_append, h.iff x]
    constructor
    · rintro (⟨h1, h2⟩ | h1)
      · exact ⟨h1, .inl h2⟩
      · simp at h1; subst h1; exact ⟨hN, .inr rfl⟩
    · rintro ⟨h1, h2 | h2⟩
      · exact .inl ⟨h1, h2⟩
      · exact .inr (by simp [h2])

theorem Seen.miss {one : Bool} {wX wr w' : World} {n l i : Nat} {Vis : List (Nat × Nat)} (h : Seen one wX wr n l i Vis) (hg : wr.grownBy w' none) (hN : ¬ Plain.Node one n (l, i)) : Seen one wX w' n l (i + 1) Vis := by
  refine ⟨h.nodup, fun x => ?_, h.grown.trans hg⟩
  rw [ahead_next, h.iff x]
  constructor
  · rintro ⟨h1, h2⟩
    exact ⟨h1, .inl h2⟩
  · rintro ⟨h1, h2 | rfl⟩
    · exact ⟨h1, h2⟩
    · exact absurd h1 hN

theorem Seen.level {one : Bool} {wX wr : World} {n l i : Nat} {Vis : List (Nat × Nat)} (h : Seen one wX wr n l i Vis) (hi : lv n l = i) : Seen one wX wr n (l + 1) 0 Vis := by
  refine ⟨h.nodup, fun x => ?_, h.grown⟩
  rw [h.iff x]
  obtain ⟨a, b⟩ := x
  constructor
  · rintro ⟨h1, h2⟩
    refine ⟨h1, ?_⟩
    simp only [Ahead] at h2 ⊢
    omega
  · rintro ⟨h1, h2⟩
    refine ⟨h1, ?_⟩
    have := h1.2.1
    simp only at this
    simp only [Ahead] at h2 ⊢
    by_cases e : a = l
    · subst e; omega
    · omega

theorem Seen_start {one : Bool} (wX : World) (n : Nat) : Seen one wX wX n 0 0 [] :=
  ⟨List.nodup_nil, fun x => by simp [Ahead], ⟨rfl, rfl, rfl, Nat.le_refl _, fun _ _ _ => rfl⟩⟩

/-- At the end as many were seen as are written. -/
theorem Seen.all {one : Bool} {wX wr w1 w2 : World} {be bo bl bw n : Nat} {Vis L : List (Nat × Nat)} (h : Seen one wX wr n (top n + 1) 0 Vis) (hC : Cov one w1 w2 be bo bl bw n (top n + 1) 0 L) : Vis.length = L.length := by
  refine nodup_same h.nodup hC.map.1 (fun x => ?_)
  rw [h.iff x]
  constructor
  · rintro ⟨h1, h2⟩
    exact hC.all x h1 h2
  · intro hx
    have := hC.good x hx
    have h1 := this.1
    exact ⟨this, by simp only [Ahead]; omega⟩

theorem Cov.still {one : Bool} {w1 w2 w' : World} {be bo bl bw n k i : Nat} {L : List (Nat × Nat)} (h : Cov one w1 w2 be bo bl bw n k i L) (hg : w2.grownBy w' none) : Cov one w' w' be bo bl bw n k i L := by
  have hg' : w2.grownBy w' (some bw) := ⟨hg.os, hg.tape, hg.output, hg.size, fun k hk _ => hg.block k hk (by simp)⟩
  exact ⟨h.ed.kept h.map hg', h.shp.kept h.map hg', h.map.kept hg (by simp), h.good, h.all, ⟨rfl, rfl, rfl, Nat.le_refl _, fun _ _ _ => rfl⟩⟩

theorem grown_of_below {w w' : World} (h : Below w.heap.size w w') : w.grownBy w' none := ⟨h.os, h.tape, h.output, h.size, fun k hk _ => h.block k hk⟩
theorem below_of_grown {w w' : World} {B : Nat} (h : w.grownBy w' none) (hB : B ≤ w.heap.size) : Below B w w' := (Below.refl B w).grown h hB (fun k e => by cases e)

set_option maxHeartbeats 2000000 in
theorem fresh_main (pages : Nat) (w : World) (hp : (pages : Int) ≤ 2134900736) :
    Calls Try.prog 5 #[.int .u64 pages] w fun e w' => e = .returned (.bool true) ∧ Below w.heap.size w w' := by
  obtain ⟨n, hn⟩ : ∃ n, n = (pages + 32575) / 32576 := ⟨_, rfl⟩
  have HN := hide hn
  have HN6 : Hid (n ≤ 65536) := by show n ≤ 65536; omega
  have HP := hide hp
  clear hn
  go_enter Try.func5, Try.ntmps5
  go_wp2_with fail
  refine (new_any w).mono ?_
  rintro e w1 ⟨be, bo, bl, bw, rfl, hF, hb1⟩
  have HF := hide hF
  have HB1 := hide hb1
  clear hF hb1
  go_wp2_with fail
  refine (zcover (one := false) w.heap.size pages n w1 HP.out HN (fun e => by cases e) HF.out).mono ?_
  rintro e w2 ⟨rfl, hb2, L, hC⟩
  have HB2 := hide (HB1.out.trans hb2)
  have HC := hide hC
  clear hb2 hC HF HB1
  go_wp2_with fail
  refine (modelShape_any pages n w2 HP.out HN).mono ?_
  rintro e w3 ⟨v, rfl, hown, hb3⟩
  obtain ⟨g', cap', hv, _, hwant⟩ := shape_form hown
  rw [hv]
  have HC3 := hide (HC.out.still (grown_of_below hb3))
  have HB3 := hide (HB2.out.trans (hb3.mono HB2.out.size))
  clear hown hb3 hv HC HB2
  obtain ⟨g, cap, hsc, hgot⟩ := HC3.out.shp
  obtain ⟨t, ht⟩ : ∃ t, t = top n + 1 := ⟨_, rfl⟩
  have HT := hide ht
  rw [← ht] at hsc ⊢
  clear ht
  have HWANT := hide hwant
  have HGOT := hide hgot
  have HSC := hide hsc
  clear hwant hgot hsc hp
  have ht3 : (t : Int) ≤ 3 := by have := HT.out; have := top_le n; omega
  go_wp2_with fail
  refine (zshape be (.slice (some ⟨g, 0, none⟩) t cap) w3 HSC.out ⟨_, _, _, rfl⟩).mono ?_
  rintro e w4 ⟨rfl, rfl⟩
  go_wp2_with fail
  go_loopw [6, 7] (fun c u wr => ∃ (l : Nat) (Vis : List (Nat × Nat)), l ≤ t ∧ u = .int .i64 l ∧ c = .int .i64 (Vis.length : Nat) ∧ Seen false w4 wr n l 0 Vis) (fun _ u _ => t - (intOf u).toNat)
  case atStart => exact ⟨0, [], Nat.zero_le _, rfl, rfl, Seen_start _ _⟩
  case round =>
    obtain ⟨l, Vis, hl, rfl, rfl, hS⟩ := hrel
    have HS := hide hS
    have hvf := hS.few HN6.out
    have hvf' : (Vis.length : Int) ≤ 196608 := by omega
    clear hS hvf
    by_cases hlt : l < t
    · have hlt2 : l ≤ top n := by have := HT.out; omega
      have ca := HS.out.grown.cell (HWANT.out l hlt2) (by simp)
      have cb := HS.out.grown.cell (HGOT.out l hlt2) (by simp)
      have hx6 := lv_le n HN6.out l
      obtain ⟨x, hx⟩ : ∃ x, x = lv n l := ⟨_, rfl⟩
      have HX := hide hx
      rw [← hx] at ca cb hx6
      have hx6' : (x : Int) ≤ 65536 := by omega
      have hlt' : (l : Int) < t := by omega
      have HL2 := hide hlt2
      clear hx hx6 hlt2
      go_wp2_with fail
      go_quiet (fail)
      go_wp2_with fail
      clear ca cb
      have HS0 := hide (show Seen false w4 (wr.drewN nq) n l 0 Vis from ⟨HS.out.nodup, HS.out.iff, HS.out.grown.trans (grown_drewN _ _ _)⟩)
      obtain ⟨wo, hwo⟩ : ∃ wo : World, wo = wr := ⟨_, rfl⟩
      clear hwo
      go_loopw [6, 8] (fun c u wi => ∃ (i : Nat) (Vi : List (Nat × Nat)), i ≤ x ∧ u = .int .i64 i ∧ c = .int .i64 (Vi.length : Nat) ∧ Seen false w4 wi n l i Vi) (fun _ u _ => x - (intOf u).toNat)
      case atStart => exact ⟨0, Vis, Nat.zero_le _, rfl, rfl, HS0.out⟩
      case round =>
        obtain ⟨i, Vi, hi, rfl, rfl, hSi⟩ := hrel
        have HSi := hide hSi
        have hvf := hSi.few HN6.out
        have hvi' : (Vi.length : Int) ≤ 196608 := by omega
        have ca : wr.cell? ⟨g', l, none⟩ = some (.int .i64 x) := by rw [HX.out]; exact hSi.grown.cell (HWANT.out l HL2.out) (by simp)
        clear hSi hvf
        by_cases hix : i < x
        · have HNd : Hid (Plain.Node false n (l, i)) := ⟨HL2.out, by rw [← HX.out]; exact hix, fun e => by cases e⟩
          have HCi := hide (HC3.out.still HSi.out.grown)
          have HBD := hide (HNd.out.bounds HN6.out)
          go_wp2_with fail
          refine (zwrittenIn l i wr HCi.out.ed HCi.out.map HBD.out.1 (Nat.le_of_lt HBD.out.2) (HCi.out.all _ HNd.out (by have := HT.out; simp only [Ahead]; omega))).mono ?_
          rintro e w' ⟨rfl, hg'⟩
          have HS' := hide (HSi.out.hit hg' HNd.out)
          clear hg'
          go_wp2_with fail
          go_roundw
          case rel => exact ⟨i + 1, Vi ++ [(l, i)], by omega, by go_num, by simp, HS'.out⟩
          case measure => simp [intOf]; omega
        · have HS' := hide (HSi.out.level (show lv n l = i by rw [← HX.out]; omega))
          go_wp2_with fail
          go_roundw
          case rel => exact ⟨l + 1, Vi, by omega, by go_num, rfl, HS'.out⟩
          case measure => simp [intOf]; omega
    · have e : l = top n + 1 := by have := HT.out; omega
      have hSt := HS.out
      rw [e] at hSt
      have HCi := hide (HC3.out.still HS.out.grown)
      have hlen := hSt.all HCi.out
      have HGR := hide HS.out.grown
      rw [hlen] at hvf' ⊢
      clear hSt hlen e
      go_wp2_with fail
      refine (zcount wr HCi.out.ed HCi.out.map).mono ?_
      rintro e w5 ⟨rfl, rfl⟩
      go_wp2_with fail
      refine (zreleased w5 HCi.out.ed).mono ?_
      rintro e w6 ⟨rfl, rfl⟩
      go_wp2_with fail
      refine (zleaves w6 HCi.out.ed).mono ?_
      rintro e w7 ⟨rfl, rfl⟩
      go_wp2_with fail
      go_ret
      exact ⟨rfl, HB3.out.trans (below_of_grown HGR.out HB3.out.size)⟩

end Go.Proofs.Qxb6612374a

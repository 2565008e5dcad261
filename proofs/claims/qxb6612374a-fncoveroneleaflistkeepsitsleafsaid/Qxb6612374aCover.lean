import Derived.Test.Qxb6612374aRewrite
namespace Go.Proofs.Qxb6612374a
open Go.RowKit Plain
set_option linter.unusedVariables false
set_option linter.unusedSimpArgs false

/-- What the shape's slice is. -/
theorem shape_form {w : World} {B n : Nat} {v : Value} (h : w.ownsRow B 3 1 v (top n + 1) (lvs n (top n))) :
    ∃ g cap, v = .slice (some ⟨g, 0, none⟩) (top n + 1) cap ∧ B ≤ g ∧ ∀ l, l ≤ top n → w.cell? ⟨g, l, none⟩ = some (.int .i64 (lv n l)) := by
  have h0 := h
  rcases h.2 with ⟨_, e⟩ | ⟨g, cap, cur, rfl, hb, _⟩
  · omega
  · refine ⟨g, cap, rfl, hb, fun l hl => ?_⟩
    rw [h0.cellAt l (by omega)]
    simp [lvs, show l < top n + 1 by omega]

/-- All that the cover's loops know: the nodes of L are just those that are written; all ahead of (k, i) are among them. -/
structure Cov (one : Bool) (w2 wr : World) (be bo bl bw n k i : Nat) (L : List (Nat × Nat)) : Prop where
  ed : Ed one wr be bo bl bw
  shp : Shaped wr be n
  map : WrMap wr bw L
  good : Good one n L
  all : ∀ x, Plain.Node one n x → Ahead k i x → x ∈ L
  grown : w2.grownBy wr (some bw)

theorem Cov.step {one : Bool} {w2 wr w' : World} {be bo bl bw n k i : Nat} {L L' : List (Nat × Nat)} (h : Cov one w2 wr be bo bl bw n k i L) (hg : wr.grownBy w' (some bw)) (hm : WrMap w' bw L') (hG : Good one n L') (hs : ∀ x, x ∈ L → x ∈ L') (hin : (k, i) ∈ L') : Cov one w2 w' be bo bl bw n k (i + 1) L' := by
  refine ⟨h.ed.kept h.map hg, h.shp.kept h.map hg, hm, hG, fun x hx ha => ?_, h.grown.trans hg⟩
  rcases (ahead_next k i x).1 ha with h1 | rfl
  · exact hs x (h.all x hx h1)
  · exact hin

theorem Cov.level {one : Bool} {w2 wr : World} {be bo bl bw n k i : Nat} {L : List (Nat × Nat)} (h : Cov one w2 wr be bo bl bw n k i L) (hi : lv n k ≤ i) : Cov one w2 wr be bo bl bw n (k + 1) 0 L := by
  refine ⟨h.ed, h.shp, h.map, h.good, fun x hx ha => ?_, h.grown⟩
  refine h.all x hx ?_
  obtain ⟨a, b⟩ := x
  have := hx.2.1
  simp only [Ahead] at ha ⊢
  simp only at this
  by_cases e : a = k
  · subst e; omega
  · omega

theorem Cov.first {w2 wr : World} {be bo bl bw n : Nat} {L : List (Nat × Nat)} (h : Cov true w2 wr be bo bl bw n 0 0 L) : Cov true w2 wr be bo bl bw n 0 1 L := by
  refine ⟨h.ed, h.shp, h.map, h.good, fun x hx ha => ?_, h.grown⟩
  obtain ⟨a, b⟩ := x
  have := hx.2.2 rfl
  simp only [Ahead] at ha
  exact absurd (by rw [show a = 0 by omega, show b = 0 by omega]) this

/-- The shape is stored. -/
theorem Cov_start {one : Bool} {w w1 : World} {be bo bl bw n g cap : Nat} (hE : Ed one w be bo bl bw) (hM : WrMap w bw []) (hb : Below w.heap.size w w1) (hsh : w1.cell? ⟨be, 1, none⟩ = some (.slice none 0 0)) (hg : w.heap.size ≤ g) (hbe : be < w.heap.size)
    (hcell : ∀ l, l ≤ top n → w1.cell? ⟨g, l, none⟩ = some (.int .i64 (lv n l))) :
    Cov one (w1.setCell ⟨be, 1, none⟩ (.slice (some ⟨g, 0, none⟩) (top n + 1) cap)) (w1.setCell ⟨be, 1, none⟩ (.slice (some ⟨g, 0, none⟩) (top n + 1) cap)) be bo bl bw n 0 0 [] := by
  have cell : ∀ {b o : Nat} {v : Value}, w.cell? ⟨b, o, none⟩ = some v → o ≠ 1 → (w1.setCell ⟨be, 1, none⟩ (.slice (some ⟨g, 0, none⟩) (top n + 1) cap)).cell? ⟨b, o, none⟩ = some v := by
    intro b o v h ho
    rw [World.cell?_setCell_other _ _ _ _ (fun e => ho (congrArg Addr.off e).symm), hb.cell (p := ⟨b, o, none⟩) (World.block_lt_of_cell? _ _ h)]
    exact h
  have hM1 : WrMap w1 bw [] := by
    obtain ⟨h1, h2, D, ho, h3⟩ := hM
    have hlt := ho.lt
    obtain ⟨es, clock, hbb, F, hs, hD⟩ := ho
    exact ⟨h1, h2, D, ⟨es, clock, (hb.block bw hlt).trans hbb, F, hs, hD⟩, h3⟩
  have hne := hM1.ne hsh
  have hg2 : w1.grownBy (w1.setCell ⟨be, 1, none⟩ (.slice (some ⟨g, 0, none⟩) (top n + 1) cap)) (some be) :=
    ⟨rfl, rfl, rfl, by simp, fun k hk hn => Below.heap_setCell _ _ _ _ (fun e => hn (by rw [e]))⟩
  refine ⟨⟨cell hE.c0 (by omega), cell hE.c2 (by omega), cell hE.c3 (by omega), cell hE.c4 (by omega), ?_, fun e => cell (hE.old0 e) (by omega), fun e => ?_, hE.ne⟩, ⟨g, cap, World.cell?_setCell_same _ _ _ hsh, fun l hl => ?_⟩, hM1.kept hg2 (fun e => hne e.symm), fun x hx => by simp at hx, fun x hx ha => ?_, ⟨rfl, rfl, rfl, Nat.le_refl _, fun _ _ _ => rfl⟩⟩
  · have hbl : bl < w.heap.size := (Array.getElem?_eq_some_iff.1 hE.leaves).1
    have hnb : bl ≠ be := by
      rintro rfl
      have hc := hE.c0
      simp [World.cell?, hE.leaves] at hc
    rw [Below.heap_setCell _ _ _ _ hnb, hb.block bl hbl]
    exact hE.leaves
  · obtain ⟨b2, b1, h1, h2⟩ := hE.old1 e
    exact ⟨b2, b1, cell h1 (by omega), cell h2 (by omega)⟩
  · rw [World.cell?_setCell_other _ _ _ _ (fun e => by have := congrArg Addr.block e; simp at this; omega)]
    exact hcell l hl
  · simp only [Ahead] at ha
    omega

theorem rewrite_zero {one : Bool} {be bo bl bw : Nat} (n i0 : Nat) (L : List (Nat × Nat)) (w : World) (hn : n ≤ 65536) (hE : Ed one w be bo bl bw) (hS : Shaped w be n) (hM : WrMap w bw L) (hG : Good one n L) (hN : Plain.Node one n (0, i0)) :
    Calls Try.prog 24 #[.pointer (some ⟨be, 0, none⟩), .agg #[.int .i64 0, .int .i64 i0]] w fun e w' => e = .returned (.tuple #[]) ∧ w.grownBy w' (some bw) ∧
      ∃ L', WrMap w' bw L' ∧ Good one n L' ∧ (∀ x, x ∈ L → x ∈ L') ∧ (0, i0) ∈ L' := rewrite_any n 0 i0 L w hn hE hS hM hG hN

set_option maxHeartbeats 2000000 in
theorem cover_any {one : Bool} {be bo bl bw : Nat} (B pages n : Nat) (sh : Value) (w : World) (hp : (pages : Int) ≤ 2134900736) (hn : Hid (n = (pages + 32575) / 32576)) (h1 : one = true → 1 ≤ n)
    (hE : Ed one w be bo bl bw) (hsh : w.cell? ⟨be, 1, none⟩ = some (.slice none 0 0)) (hf : w.frozen? ⟨be, 1, none⟩ = false) (hM : WrMap w bw []) (hB1 : B ≤ be) (hB2 : B ≤ bw) :
    Calls Try.prog 22 #[.pointer (some ⟨be, 0, none⟩), .int .u64 pages] w fun e w' => e = .returned (.tuple #[]) ∧ Below B w w' ∧ ∃ L, Cov one w' w' be bo bl bw n (top n + 1) 0 L := by
  have HE := hide hE
  have HM := hide hM
  have HN6 : Hid (n ≤ 65536) := by show n ≤ 65536; rw [hn.out]; omega
  have hbe : be < w.heap.size := World.block_lt_of_cell? _ _ hsh
  clear hE hM
  go_enter Try.func22, Try.ntmps22
  go_wp2_with fail
  refine (listShape_any pages n w (by omega) hn).mono ?_
  rintro e w1 ⟨v, rfl, hown, hbel⟩
  obtain ⟨g, cap, hv, hg, hcell⟩ := shape_form hown
  rw [hv]
  have hsh1 : w1.cell? ⟨be, 1, none⟩ = some (.slice none 0 0) := (hbel.cell (p := ⟨be, 1, none⟩) hbe).trans hsh
  have hf1 : w1.frozen? ⟨be, 1, none⟩ = false := (hbel.frozen (p := ⟨be, 1, none⟩) hbe).trans hf
  have hC := Cov_start (cap := cap) HE.out HM.out hbel hsh1 hg hbe hcell
  have HB : Hid (Below B w (w1.setCell ⟨be, 1, none⟩ (.slice (some ⟨g, 0, none⟩) (top n + 1) cap))) := (hbel.mono (by omega)).setCell hB1 _
  obtain ⟨t, ht⟩ : ∃ t, t = top n + 1 := ⟨_, rfl⟩
  have HT := hide ht
  rw [← ht] at hC HB ⊢
  have HC := hide hC
  have HSC : Hid ((w1.setCell ⟨be, 1, none⟩ (.slice (some ⟨g, 0, none⟩) t cap)).cell? ⟨be, 1, none⟩ = some (.slice (some ⟨g, 0, none⟩) t cap)) := World.cell?_setCell_same _ _ _ hsh1
  have HSC2 : Hid (∀ l, l ≤ top n → (w1.setCell ⟨be, 1, none⟩ (.slice (some ⟨g, 0, none⟩) t cap)).cell? ⟨g, l, none⟩ = some (.int .i64 (lv n l))) := fun l hl => by
    rw [World.cell?_setCell_other _ _ _ _ (fun e => by have := congrArg Addr.block e; simp at this; omega)]
    exact hcell l hl
  clear ht hC hcell hv hown hbel hsh hf hp
  go_wp2_with fail
  clear hsh1 hf1
  generalize w1.setCell ⟨be, 1, none⟩ (.slice (some ⟨g, 0, none⟩) t cap) = w2 at HB HC HSC HSC2 ⊢
  go_loopw [17] (fun u wr => ∃ (k : Nat) (L : List (Nat × Nat)), k ≤ t ∧ u = .int .i64 k ∧ Cov one w2 wr be bo bl bw n k 0 L) (fun u _ => t - (intOf u).toNat)
  case atStart => exact ⟨0, [], Nat.zero_le _, rfl, HC.out⟩
  case round =>
    obtain ⟨k, L, hk, rfl, hC⟩ := hrel
    by_cases hlt : k < t
    · have hkt : k ≤ top n := by have := HT.out; omega
      have ck := hC.grown.cell (HSC2.out k hkt) (HC.out.map.ne (HSC2.out k hkt))
      have hx6 := lv_le n HN6.out k
      obtain ⟨x, hx⟩ : ∃ x, x = lv n k := ⟨_, rfl⟩
      have HX := hide hx
      rw [← hx] at ck hx6
      have hx6' : (x : Int) ≤ 65536 := by omega
      have ht3 : (t : Int) ≤ 3 := by have := HT.out; have := top_le n; omega
      clear hx hx6
      have c0 := hC.ed.c0
      have HCk := hide hC
      clear hC
      have hkt := hide hkt
      cases one with
      | false =>
        have o0 := HCk.out.ed.old0 rfl
        have hd : decide ((k : Int) < 0) = false := by simp
        go_wp2_with fail
        clear c0 o0 ck hd
        obtain ⟨wo, hwo⟩ : ∃ wo : World, wo = wr := ⟨_, rfl⟩
        clear hwo
        go_loopw [6] (fun u wi => ∃ (i : Nat) (Li : List (Nat × Nat)), u = .int .i64 i ∧ Cov false w2 wi be bo bl bw n k i Li ∧ (i : Int) ≤ 65536 ∧ Hid (false = true → k = 0 → 1 ≤ i)) (fun u _ => x - (intOf u).toNat)
        case atStart => exact ⟨0, L, rfl, HCk.out, by omega, fun e1 e2 => by first | exact absurd e1 (by decide) | omega⟩
        case round =>
          obtain ⟨i, Li, rfl, hC, hi6, hi1⟩ := hrel
          have HCi := hide hC
          clear hC
          by_cases hix : i < x
          · have HNd : Hid (Plain.Node false n (k, i)) := ⟨hkt.out, by rw [← HX.out]; exact hix, fun e0 e => by
              cases e
              first | exact absurd e0 (by decide) | (have := hi1.out rfl rfl; omega)⟩
            go_wp2_with fail
            refine (rewrite_any n k i Li wr HN6.out HCi.out.ed HCi.out.shp HCi.out.map HCi.out.good HNd.out).mono ?_
            rintro e w' ⟨rfl, hg', L', hm', hG', hs', hin'⟩
            have HC' := hide (HCi.out.step hg' hm' hG' hs' hin')
            clear hg' hm' hG' hs' hin'
            go_wp2_with fail
            go_roundw
            case rel => exact ⟨i + 1, L', by go_num, HC'.out, by omega, fun _ _ => by omega⟩
            case measure => simp [intOf]; omega
          · have HC' := hide (HCi.out.level (by rw [← HX.out]; omega))
            go_wp2_with fail
            go_roundw
            case rel => exact ⟨k + 1, Li, by omega, by go_num, HC'.out⟩
            case measure => simp [intOf]; omega
      | true =>
        obtain ⟨b2, b1, o0, o1⟩ := HCk.out.ed.old1 rfl
        by_cases hk0 : 1 ≤ k
        · have hd : decide ((k : Int) < 1) = false := by simp; omega
          go_wp2_with fail
          clear c0 o0 o1 ck hd
          obtain ⟨wo, hwo⟩ : ∃ wo : World, wo = wr := ⟨_, rfl⟩
          clear hwo
          go_loopw [6] (fun u wi => ∃ (i : Nat) (Li : List (Nat × Nat)), u = .int .i64 i ∧ Cov true w2 wi be bo bl bw n k i Li ∧ (i : Int) ≤ 65536 ∧ Hid (true = true → k = 0 → 1 ≤ i)) (fun u _ => x - (intOf u).toNat)
          case atStart => exact ⟨0, L, rfl, HCk.out, by omega, fun e1 e2 => by first | exact absurd e1 (by decide) | omega⟩
          case round =>
            obtain ⟨i, Li, rfl, hC, hi6, hi1⟩ := hrel
            have HCi := hide hC
            clear hC
            by_cases hix : i < x
            · have HNd : Hid (Plain.Node true n (k, i)) := ⟨hkt.out, by rw [← HX.out]; exact hix, fun e0 e => by
                cases e
                first | exact absurd e0 (by decide) | (have := hi1.out rfl rfl; omega)⟩
              go_wp2_with fail
              refine (rewrite_any n k i Li wr HN6.out HCi.out.ed HCi.out.shp HCi.out.map HCi.out.good HNd.out).mono ?_
              rintro e w' ⟨rfl, hg', L', hm', hG', hs', hin'⟩
              have HC' := hide (HCi.out.step hg' hm' hG' hs' hin')
              clear hg' hm' hG' hs' hin'
              go_wp2_with fail
              go_roundw
              case rel => exact ⟨i + 1, L', by go_num, HC'.out, by omega, fun _ _ => by omega⟩
              case measure => simp [intOf]; omega
            · have HC' := hide (HCi.out.level (by rw [← HX.out]; omega))
              go_wp2_with fail
              go_roundw
              case rel => exact ⟨k + 1, Li, by omega, by go_num, HC'.out⟩
              case measure => simp [intOf]; omega
        · obtain rfl : k = 0 := by omega
          have hd : decide (((0 : Nat) : Int) < 1) = true := by simp
          clear hk0
          go_wp2_with fail
          clear c0 o0 o1 ck hd
          obtain ⟨wo, hwo⟩ : ∃ wo : World, wo = wr := ⟨_, rfl⟩
          clear hwo
          go_loopw [6] (fun u wi => ∃ (i : Nat) (Li : List (Nat × Nat)), u = .int .i64 i ∧ Cov true w2 wi be bo bl bw n 0 i Li ∧ (i : Int) ≤ 65536 ∧ Hid (1 ≤ i)) (fun u _ => x - (intOf u).toNat)
          case atStart => exact ⟨1, L, rfl, HCk.out.first, by omega, Nat.le_refl _⟩
          case round =>
            obtain ⟨i, Li, rfl, hC, hi6, hi1⟩ := hrel
            have HCi := hide hC
            clear hC
            by_cases hix : i < x
            · have HNd : Hid (Plain.Node true n (0, i)) := ⟨hkt.out, by rw [← HX.out]; exact hix, fun e0 e => by
                cases e
                exact absurd hi1.out (by decide)⟩
              go_wp2_with fail
              refine (rewrite_zero n i Li wr HN6.out HCi.out.ed HCi.out.shp HCi.out.map HCi.out.good HNd.out).mono ?_
              rintro e w' ⟨rfl, hg', L', hm', hG', hs', hin'⟩
              have HC' := hide (HCi.out.step hg' hm' hG' hs' hin')
              clear hg' hm' hG' hs' hin'
              go_wp2_with fail
              go_roundw
              case rel => exact ⟨i + 1, L', by go_num, HC'.out, by omega, Nat.le_add_left 1 i⟩
              case measure => simp [intOf]; omega
            · have HC' := hide (HCi.out.level (by rw [← HX.out]; omega))
              go_wp2_with fail
              go_roundw
              case rel => exact ⟨0 + 1, Li, by omega, rfl, HC'.out⟩
              case measure => simp [intOf]; omega
    · obtain rfl : k = t := by omega
      have HCk := hide hC
      clear hC
      go_wp2_with fail
      go_end0
      refine ⟨rfl, HB.out.trans ((Below.refl B w2).grown HCk.out.grown ?_ ?_), L, ?_⟩
      · have := HB.out.size
        omega
      · intro j hj
        cases hj
        exact hB2
      · have e := HT.out
        subst e
        exact ⟨HCk.out.ed, HCk.out.shp, HCk.out.map, HCk.out.good, HCk.out.all, ⟨rfl, rfl, rfl, Nat.le_refl _, fun _ _ _ => rfl⟩⟩

end Go.Proofs.Qxb6612374a

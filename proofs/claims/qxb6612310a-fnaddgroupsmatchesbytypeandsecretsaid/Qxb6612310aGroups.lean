import Derived.Test.Qxb6612310aZadd
import Derived.Test.Qxb6612310aBytes
import Derived.Deep.RegionHeld3
namespace Go.Proofs.Qxb6612310a
open Go.RowKit Plain
set_option linter.unusedVariables false
set_option linter.unusedSimpArgs false

set_option maxRecDepth 100000 in
set_option maxHeartbeats 4000000 in
theorem groups_walk (a : Option Addr) (n cap : Nat) (T N E : Nat → ByteArray) (a' : Option Addr) (n' cap' : Nat) (P : Nat → Int) (S : Nat → ByteArray) (L : Nat → Int) (so co pa : ByteArray) (ln : Int) (w : World) (hn : n ≤ maxLen) (hn' : n' ≤ maxLen) (hS : SpecsAt w.heap.size w a n T N E) (hM : MsAt w.heap.size w a' n' P S L) (h_so : so.size ≤ maxLen) (h_co : co.size ≤ maxLen) (h_pa : pa.size ≤ maxLen) :
    Calls Try.prog 3 #[.slice a n cap, .slice a' n' cap', .string so, .string co, .string pa, .int .i64 ln] w fun e w' => e = .returned (.bool true) ∧ Below w.heap.size w w' := by
  have HC5 := hide (bytesOne a n cap T N E a' n' cap' P S L so co pa ln w hn hn' hS hM h_so h_co h_pa)
  have gn : (n : Int) ≤ 9223372036854775807 := by unfold maxLen at hn; omega
  have gn' : (n' : Int) ≤ 9223372036854775807 := by unfold maxLen at hn'; omega
  have g_so : (so.size : Int) ≤ 9223372036854775807 := by unfold maxLen at h_so; omega
  have g_co : (co.size : Int) ≤ 9223372036854775807 := by unfold maxLen at h_co; omega
  have g_pa : (pa.size : Int) ≤ 9223372036854775807 := by unfold maxLen at h_pa; omega
  have HS := hide hS
  have HM := hide hM
  clear hn hn' hS hM h_so h_co h_pa
  go_enter Try.func3, Try.ntmps3
  go_wp2_with fail
  refine HC5.out.mono ?_
  rintro e w ⟨⟨c, rfl⟩, rfl⟩
  clear HC5
  cases c
  · go_wp2_with fail
    go_ret
    exact ⟨rfl, Below.refl _ _⟩
  by_cases h1 : (65536 : Int) < n
  · go_wp2_with fail
    go_ret
    exact ⟨rfl, Below.refl _ _⟩
  by_cases h2 : (4096 : Int) < n'
  · go_wp2_with fail
    go_ret
    exact ⟨rfl, Below.refl _ _⟩
  have h1' : (n : Int) ≤ 65536 := by omega
  have h2' : (n' : Int) ≤ 4096 := by omega
  go_wp2_with fail
  refine (specBytes a n cap T N E w h1' HS.out).mono ?_
  rintro e w ⟨⟨z1, rfl, z10, z11⟩, rfl⟩
  go_wp2_with fail
  refine (msBytes a' n' cap' P S L w h2' HM.out).mono ?_
  rintro e w ⟨⟨z2, rfl, z20, z21⟩, rfl⟩
  go_wp2_with fail
  refine (addLen_any z1 z2 w z10 (by omega) (by omega) (by omega)).mono ?_
  rintro e w ⟨rfl, rfl⟩
  obtain ⟨z30, z31⟩ := addLen_bd z1 z2 z10
  generalize addLen z1 z2 = z3 at z30 z31
  clear z10 z11 z20 z21
  go_wp2_with fail
  refine (addLen_any z3 so.size w z30 (by omega) (by omega) (by omega)).mono ?_
  rintro e w ⟨rfl, rfl⟩
  obtain ⟨z40, z41⟩ := addLen_bd z3 so.size z30
  generalize addLen z3 so.size = z4 at z40 z41
  clear z30 z31
  go_wp2_with fail
  refine (addLen_any z4 co.size w z40 (by omega) (by omega) (by omega)).mono ?_
  rintro e w ⟨rfl, rfl⟩
  obtain ⟨z50, z51⟩ := addLen_bd z4 co.size z40
  generalize addLen z4 co.size = z5 at z50 z51
  clear z40 z41
  go_wp2_with fail
  refine (addLen_any z5 pa.size w z50 (by omega) (by omega) (by omega)).mono ?_
  rintro e w ⟨rfl, rfl⟩
  obtain ⟨z60, z61⟩ := addLen_bd z5 pa.size z50
  generalize addLen z5 pa.size = z6 at z60 z61
  clear z50 z51
  by_cases h3 : 1048576 < z6
  · go_wp2_with fail
    go_ret
    exact ⟨rfl, Below.refl _ _⟩
  by_cases h4 : n = 0
  · subst h4
    go_wp2_with fail
    go_ret
    exact ⟨rfl, Below.refl _ _⟩
  have h4' : 0 < n := by omega
  have h4'' : ¬ (n : Int) = 0 := by omega
  go_wp2_with fail
  refine (patsInRange n a' n' cap' P S L w h2' HM.out).mono ?_
  rintro e w ⟨hr | ⟨rfl, hr⟩, rfl⟩
  · subst hr
    go_wp2_with fail
    go_ret
    exact ⟨rfl, Below.refl _ _⟩
  have Hr := hide hr
  clear hr g_so g_co g_pa gn gn' z60 z61 h3 h1 h2
  obtain ⟨p, ep⟩ : ∃ p : Nat → Nat, p = fun i => (P i).toNat := ⟨_, rfl⟩
  have hp : ∀ i, i < n' → p i < n := fun i hi => by rw [ep]; have := Hr.out i hi; show (P i).toNat < n; omega
  have hM0 := MsAt.congr HM.out (P' := fun i => (p i : Int)) (fun i hi => by rw [ep]; have := Hr.out i hi; show P i = ((P i).toNat : Int); omega)
  have HM0 := hide hM0
  have Hp := hide hp
  clear ep hp hM0 Hr HM
  go_wp2_with fail
  refine (patterns_any a n cap T N E w h1' h4' HS.out).mono ?_
  rintro e w1 ⟨rfl, hpr, hb1⟩
  have HPR := hide hpr
  have G01 := hide (below_grownBy hb1)
  have hg1 : w.heap.size < w1.heap.size := by
    obtain ⟨_, _, _, q, _⟩ := hpr 0 h4'
    exact cell_lt q.c0
  have HG1 := hide hg1
  clear hpr hb1 hg1
  go_wp2_with fail
  refine (new_any w.heap.size n w1).mono ?_
  rintro e w2 ⟨rfl, e2⟩
  have E2 := hide e2
  have G12 : Hid (w1.grownBy w2 none) := by show _; rw [e2]; exact (World.grownBy_alloc _ _ none).trans (World.grownBy_alloc _ _ none)
  have Z12 : Hid (w2.heap.size = w1.heap.size + 2) := by show _ = _; rw [e2]; simp
  clear e2
  go_wp2_with fail
  obtain ⟨w3, hw3⟩ : ∃ x, x = w2.alloc (.cells #[.string so, .string co, .string pa, .int .i64 ln] 34) := ⟨_, rfl⟩
  rw [← hw3]
  have G23 : Hid (w2.grownBy w3 none) := by show _; rw [hw3]; exact World.grownBy_alloc _ _ _
  have Z23 : Hid (w3.heap.size = w2.heap.size + 1) := by show _ = _; rw [hw3]; simp
  have d0 : w3.cell? ⟨w2.heap.size, 0, none⟩ = some (.string so) := by rw [hw3]; simp
  have d1 : w3.cell? ⟨w2.heap.size, 1, none⟩ = some (.string co) := by rw [hw3]; simp
  have d2 : w3.cell? ⟨w2.heap.size, 2, none⟩ = some (.string pa) := by rw [hw3]; simp
  have d3 : w3.cell? ⟨w2.heap.size, 3, none⟩ = some (.int .i64 ln) := by rw [hw3]; simp
  obtain ⟨av, hav⟩ : ∃ x, x = w2.heap.size := ⟨_, rfl⟩
  rw [← hav] at d0 d1 d2 d3 Z12 Z23
  rw [← hav]
  obtain ⟨sb, hsb⟩ : ∃ x, x = w1.heap.size + 1 := ⟨_, rfl⟩
  rw [← hsb]
  obtain ⟨gm, hgm⟩ : ∃ x, x = w3.heap.size := ⟨_, rfl⟩
  have Hav := hide hav
  have Hsb := hide hsb
  have Hgm := hide hgm
  have G03 : Hid (w.grownBy w3.drew none) := ((G01.out.trans G12.out).trans G23.out).trans (grown_drew _ _)
  have HMt : Hid (Calls Try.prog 13 #[.slice (some ⟨w.heap.size, 0, none⟩) n n, .slice a' n' cap'] w3.drew fun e w' => e = .returned (.slice (some ⟨gm, 0, none⟩) n' n') ∧ MatRow w' gm w.heap.size n' n' p S L ∧ w3.drew.grownBy w' none ∧ gm < w'.heap.size) := by
    rw [hgm]
    exact matches_full (B := w.heap.size) w.heap.size n a' n' cap' p S L w3.drew h2' h1' Hp.out G03.out.size (HM0.out.below (grownBy_below G03.out))
  have ZA : Hid (∀ w4, MatRow w4 gm w.heap.size n' n' p S L → w3.drew.grownBy w4 none → gm < w4.heap.size → Calls Try.prog 12 #[.pointer (some ⟨sb, 0, none⟩), .slice (some ⟨gm, 0, none⟩) n' n', .agg #[.string so, .string co, .string pa, .int .i64 ln]] w4 (AddPost (msOf T N E p S L) n' w4.heap.size w1.heap.size ⟨so, co, pa, ln⟩ (fun _ => []) w4)) := by
    intro w4 hm hg hz
    have z12 := Z12.out
    have z23 := Z23.out
    have zg1 := HG1.out
    have zg := hg.size
    have zd : w3.drew.heap.size = w3.heap.size := rfl
    obtain ⟨hR, hH⟩ := ready (w3 := w3.drew) HPR.out zg1 E2.out (G23.out.trans (grown_drew _ _)) hg (by rw [zd, ← hgm]; exact hm) Hp.out
    rw [zd, ← hgm, ← hsb] at hR
    exact zadd_any _ n' 0 w4.heap.size w1.heap.size sb gm w.heap.size p so co pa ln (fun _ => []) w4 h2' (msOf_sized HS.out HM0.out Hp.out) (.inl rfl) hH (fun _ _ => rfl) (fun _ => Nat.zero_le _) hR ⟨by omega, by omega⟩ ⟨by omega, by omega⟩ ⟨by omega, by omega⟩
  have KP4 : Hid (∀ w4, w3.drew.grownBy w4 none → w4.cell? ⟨av, 0, none⟩ = some (.string so) ∧ w4.cell? ⟨av, 1, none⟩ = some (.string co) ∧ w4.cell? ⟨av, 2, none⟩ = some (.string pa) ∧ w4.cell? ⟨av, 3, none⟩ = some (.int .i64 ln)) :=
    fun w4 hg => ⟨hg.cell (a := ⟨av, 0, none⟩) d0 (by simp), hg.cell (a := ⟨av, 1, none⟩) d1 (by simp), hg.cell (a := ⟨av, 2, none⟩) d2 (by simp), hg.cell (a := ⟨av, 3, none⟩) d3 (by simp)⟩
  have KP5 : Hid (∀ w4 w5, w3.drew.grownBy w4 none → Kept w4.heap.size w1.heap.size w4 w5 → w5.cell? ⟨av, 0, none⟩ = some (.string so) ∧ w5.cell? ⟨av, 1, none⟩ = some (.string co) ∧ w5.cell? ⟨av, 2, none⟩ = some (.string pa) ∧ w5.cell? ⟨av, 3, none⟩ = some (.int .i64 ln)) := by
    intro w4 w5 hg hk
    obtain ⟨k0, k1, k2, k3⟩ := KP4.out w4 hg
    have z12 := Z12.out
    have hlt := cell_lt k0
    have hne : av ≠ w1.heap.size := by omega
    exact ⟨(hk.cell (p := ⟨av, 0, none⟩) hlt hne).trans k0, (hk.cell (p := ⟨av, 1, none⟩) hlt hne).trans k1, (hk.cell (p := ⟨av, 2, none⟩) hlt hne).trans k2, (hk.cell (p := ⟨av, 3, none⟩) hlt hne).trans k3⟩
  clear hw3 hav hsb hgm
  go_region_held3 (fun w' => w'.cell? ⟨av, 0, none⟩ = some (.string so) ∧ w'.cell? ⟨av, 1, none⟩ = some (.string co) ∧ w'.cell? ⟨av, 2, none⟩ = some (.string pa) ∧ w'.cell? ⟨av, 3, none⟩ = some (.int .i64 ln)) (first | exact KP5.out _ _ hg4 hk5 | exact KP4.out _ hg4 | go_keep)
    (first | (go_at_call 13; refine HMt.out.mono ?_; rintro e w4 ⟨rfl, hm4, hg4, hz4⟩) | (go_at_call 12; refine (ZA.out _ hm4 hg4 hz4).mono ?_; rintro e w5 ⟨rfl, hh5, hk5⟩))
  obtain ⟨q0, q1, q2, q3⟩ := KP5.out _ _ hg4 hk5
  have z12 := Z12.out
  have z23 := Z23.out
  have zsb := Hsb.out
  have zg := hg4.size
  have zd : w3.drew.heap.size = w3.heap.size := rfl
  have G04 := G03.out.trans hg4
  have B05 : Hid (Below w.heap.size w w5) := ((grownBy_below G04).trans (hk5.below (H := w.heap.size) (Nat.le_of_lt HG1.out) (by omega)))
  have G56 := World.grownBy_alloc w5 (.cells #[.string so, .string co, .string pa, .int .i64 ln] 34) none
  have B06 := B05.out.grown G56 (Nat.le_trans G04.size hk5.size) (fun k e => by cases e)
  have s2 : w2.cell? ⟨sb, 1, none⟩ = some (.map (some w1.heap.size)) := by rw [zsb, E2.out]; simp
  have s4 := ((G23.out.trans (grown_drew _ _)).trans hg4).cell s2 (by simp)
  have s5 := (hk5.cell (p := ⟨sb, 1, none⟩) (by show sb < _; omega) (by show sb ≠ _; omega)).trans s4
  have HAR := hide (are_any (D := w.heap.size) T N E S p L n' n cap cap' 1 w5.heap.size w4.heap.size w1.heap.size sb a a' (fun _ => ⟨so, co, pa, ln⟩) _ h2' h1' (by omega) (HS.out.below B06) (HM0.out.below B06) Hp.out
    ((hh5.still G56).congr (fun i _ => rfl)) (ats_one w5 ⟨so, co, pa, ln⟩) (G56.cell s5 (by simp)))
  have HB6 := hide B06
  clear z12 z23 zsb zg zd G04 B05 G56 B06 s2 s4 s5 hh5 hk5 hm4 hg4 hz4 d0 d1 d2 d3 ZA HMt KP4 KP5
  go_wp2_with fail
  refine HAR.out.mono ?_
  rintro e w7 ⟨rfl, g7⟩
  have HB7 := hide (HB6.out.grown g7 HB6.out.size (fun k e => by cases e))
  clear g7
  go_wp2_with fail
  go_ret
  exact ⟨rfl, HB7.out⟩

end Go.Proofs.Qxb6612310a

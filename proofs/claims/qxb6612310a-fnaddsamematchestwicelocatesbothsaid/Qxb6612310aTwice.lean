import Derived.Test.Qxb6612310aZadd
import Derived.Test.Qxb6612310aBytes2
import Derived.Deep.RegionHeld3
namespace Go.Proofs.Qxb6612310a
open Go.RowKit Plain
set_option linter.unusedVariables false
set_option linter.unusedSimpArgs false

/-- The cells of a row of two places. -/
theorem ats_two (w : World) (a b : Plain.Loc) : Ats (w.alloc (.cells #[.string a.so, .string a.co, .string a.pa, .int .i64 a.ln, .string b.so, .string b.co, .string b.pa, .int .i64 b.ln] 34)) w.heap.size 2 (fun c => if c = 0 then a else b) := by
  refine ⟨fun c hc => ?_, fun c hc => ?_, fun c hc => ?_, fun c hc => ?_⟩ <;>
  · rcases (show c = 0 ∨ c = 1 by omega) with rfl | rfl <;> simp

set_option maxRecDepth 100000 in
set_option maxHeartbeats 4000000 in
theorem twice_walk (a : Option Addr) (n cap : Nat) (T N E : Nat → ByteArray) (a' : Option Addr) (n' cap' : Nat) (P : Nat → Int) (S : Nat → ByteArray) (L : Nat → Int) (so co pa : ByteArray) (ln : Int) (so2 co2 pa2 : ByteArray) (ln2 : Int) (w : World) (hn : n ≤ maxLen) (hn' : n' ≤ maxLen) (hS : SpecsAt w.heap.size w a n T N E) (hM : MsAt w.heap.size w a' n' P S L) (h_so : so.size ≤ maxLen) (h_co : co.size ≤ maxLen) (h_pa : pa.size ≤ maxLen) (h_so2 : so2.size ≤ maxLen) (h_co2 : co2.size ≤ maxLen) (h_pa2 : pa2.size ≤ maxLen) :
    Calls Try.prog 4 #[.slice a n cap, .slice a' n' cap', .string so, .string co, .string pa, .int .i64 ln, .string so2, .string co2, .string pa2, .int .i64 ln2] w fun e w' => e = .returned (.bool true) ∧ Below w.heap.size w w' := by
  have HC5 := hide (bytesTwo a n cap T N E a' n' cap' P S L so co pa ln so2 co2 pa2 ln2 w hn hn' hS hM h_so h_co h_pa h_so2 h_co2 h_pa2)
  have gn : (n : Int) ≤ 9223372036854775807 := by unfold maxLen at hn; omega
  have gn' : (n' : Int) ≤ 9223372036854775807 := by unfold maxLen at hn'; omega
  have g_so : (so.size : Int) ≤ 9223372036854775807 := by unfold maxLen at h_so; omega
  have g_co : (co.size : Int) ≤ 9223372036854775807 := by unfold maxLen at h_co; omega
  have g_pa : (pa.size : Int) ≤ 9223372036854775807 := by unfold maxLen at h_pa; omega
  have g_so2 : (so2.size : Int) ≤ 9223372036854775807 := by unfold maxLen at h_so2; omega
  have g_co2 : (co2.size : Int) ≤ 9223372036854775807 := by unfold maxLen at h_co2; omega
  have g_pa2 : (pa2.size : Int) ≤ 9223372036854775807 := by unfold maxLen at h_pa2; omega
  have HS := hide hS
  have HM := hide hM
  clear hn hn' hS hM h_so h_co h_pa h_so2 h_co2 h_pa2
  go_enter Try.func4, Try.ntmps4
  go_wp2_with fail
  refine HC5.out.mono ?_
  rintro e w ⟨⟨c, rfl⟩, rfl⟩
  clear HC5
  cases c
  · go_wp2_with fail
    go_ret
    exact ⟨rfl, Below.refl _ _⟩
  by_cases h1 : (65536 : Int) < n
  · go_wp2_with fail
    go_ret
    exact ⟨rfl, Below.refl _ _⟩
  by_cases h2 : (4096 : Int) < n'
  · go_wp2_with fail
    go_ret
    exact ⟨rfl, Below.refl _ _⟩
  have h1' : (n : Int) ≤ 65536 := by omega
  have h2' : (n' : Int) ≤ 4096 := by omega
  go_wp2_with fail
  refine (specBytes a n cap T N E w h1' HS.out).mono ?_
  rintro e w ⟨⟨z1, rfl, z10, z11⟩, rfl⟩
  go_wp2_with fail
  refine (msBytes a' n' cap' P S L w h2' HM.out).mono ?_
  rintro e w ⟨⟨z2, rfl, z20, z21⟩, rfl⟩
  go_wp2_with fail
  refine (addLen_any z1 z2 w z10 (by omega) (by omega) (by omega)).mono ?_
  rintro e w ⟨rfl, rfl⟩
  obtain ⟨z30, z31⟩ := addLen_bd z1 z2 z10
  generalize addLen z1 z2 = z3 at z30 z31
  clear z10 z11 z20 z21
  go_wp2_with fail
  refine (addLen_any z3 so.size w z30 (by omega) (by omega) (by omega)).mono ?_
  rintro e w ⟨rfl, rfl⟩
  obtain ⟨z40, z41⟩ := addLen_bd z3 so.size z30
  generalize addLen z3 so.size = z4 at z40 z41
  clear z30 z31
  go_wp2_with fail
  refine (addLen_any z4 co.size w z40 (by omega) (by omega) (by omega)).mono ?_
  rintro e w ⟨rfl, rfl⟩
  obtain ⟨z50, z51⟩ := addLen_bd z4 co.size z40
  generalize addLen z4 co.size = z5 at z50 z51
  clear z40 z41
  go_wp2_with fail
  refine (addLen_any z5 pa.size w z50 (by omega) (by omega) (by omega)).mono ?_
  rintro e w ⟨rfl, rfl⟩
  obtain ⟨z60, z61⟩ := addLen_bd z5 pa.size z50
  generalize addLen z5 pa.size = z6 at z60 z61
  clear z50 z51
  go_wp2_with fail
  refine (addLen_any z6 so2.size w z60 (by omega) (by omega) (by omega)).mono ?_
  rintro e w ⟨rfl, rfl⟩
  obtain ⟨z70, z71⟩ := addLen_bd z6 so2.size z60
  generalize addLen z6 so2.size = z7 at z70 z71
  clear z60 z61
  go_wp2_with fail
  refine (addLen_any z7 co2.size w z70 (by omega) (by omega) (by omega)).mono ?_
  rintro e w ⟨rfl, rfl⟩
  obtain ⟨z80, z81⟩ := addLen_bd z7 co2.size z70
  generalize addLen z7 co2.size = z8 at z80 z81
  clear z70 z71
  go_wp2_with fail
  refine (addLen_any z8 pa2.size w z80 (by omega) (by omega) (by omega)).mono ?_
  rintro e w ⟨rfl, rfl⟩
  obtain ⟨z90, z91⟩ := addLen_bd z8 pa2.size z80
  generalize addLen z8 pa2.size = z9 at z90 z91
  clear z80 z81
  by_cases h3 : 1048576 < z9
  · go_wp2_with fail
    go_ret
    exact ⟨rfl, Below.refl _ _⟩
  by_cases h4 : n = 0
  · subst h4
    go_wp2_with fail
    go_ret
    exact ⟨rfl, Below.refl _ _⟩
  have h4' : 0 < n := by omega
  have h4'' : ¬ (n : Int) = 0 := by omega
  go_wp2_with fail
  refine (patsInRange n a' n' cap' P S L w h2' HM.out).mono ?_
  rintro e w ⟨hr | ⟨rfl, hr⟩, rfl⟩
  · subst hr
    go_wp2_with fail
    go_ret
    exact ⟨rfl, Below.refl _ _⟩
  have Hr := hide hr
  clear hr g_so g_co g_pa g_so2 g_co2 g_pa2 gn gn' z90 z91 h3 h1 h2
  obtain ⟨p, ep⟩ : ∃ p : Nat → Nat, p = fun i => (P i).toNat := ⟨_, rfl⟩
  have hp : ∀ i, i < n' → p i < n := fun i hi => by rw [ep]; have := Hr.out i hi; show (P i).toNat < n; omega
  have hM0 := MsAt.congr HM.out (P' := fun i => (p i : Int)) (fun i hi => by rw [ep]; have := Hr.out i hi; show P i = ((P i).toNat : Int); omega)
  have HM0 := hide hM0
  have Hp := hide hp
  clear ep hp hM0 Hr HM
  go_wp2_with fail
  refine (patterns_any a n cap T N E w h1' h4' HS.out).mono ?_
  rintro e w1 ⟨rfl, hpr, hb1⟩
  have HPR := hide hpr
  have G01 := hide (below_grownBy hb1)
  have hg1 : w.heap.size < w1.heap.size := by
    obtain ⟨_, _, _, q, _⟩ := hpr 0 h4'
    exact cell_lt q.c0
  have HG1 := hide hg1
  clear hpr hb1 hg1
  go_wp2_with fail
  refine (new_any w.heap.size n w1).mono ?_
  rintro e w2 ⟨rfl, e2⟩
  have E2 := hide e2
  have G12 : Hid (w1.grownBy w2 none) := by show _; rw [e2]; exact (World.grownBy_alloc _ _ none).trans (World.grownBy_alloc _ _ none)
  have Z12 : Hid (w2.heap.size = w1.heap.size + 2) := by show _ = _; rw [e2]; simp
  clear e2
  go_wp2_with fail
  obtain ⟨w3, hw3⟩ : ∃ x, x = (w2.alloc (.cells #[.string so, .string co, .string pa, .int .i64 ln] 34)).alloc (.cells #[.string so2, .string co2, .string pa2, .int .i64 ln2] 34) := ⟨_, rfl⟩
  rw [← hw3]
  have G23 : Hid (w2.grownBy w3 none) := by show _; rw [hw3]; exact (World.grownBy_alloc _ _ none).trans (World.grownBy_alloc _ _ none)
  have Z23 : Hid (w3.heap.size = w2.heap.size + 2) := by show _ = _; rw [hw3]; simp
  have d0 : w3.cell? ⟨w2.heap.size, 0, none⟩ = some (.string so) := by rw [hw3]; simp
  have d1 : w3.cell? ⟨w2.heap.size, 1, none⟩ = some (.string co) := by rw [hw3]; simp
  have d2 : w3.cell? ⟨w2.heap.size, 2, none⟩ = some (.string pa) := by rw [hw3]; simp
  have d3 : w3.cell? ⟨w2.heap.size, 3, none⟩ = some (.int .i64 ln) := by rw [hw3]; simp
  have d4 : w3.cell? ⟨w2.heap.size + 1, 0, none⟩ = some (.string so2) := by rw [hw3]; simp
  have d5 : w3.cell? ⟨w2.heap.size + 1, 1, none⟩ = some (.string co2) := by rw [hw3]; simp
  have d6 : w3.cell? ⟨w2.heap.size + 1, 2, none⟩ = some (.string pa2) := by rw [hw3]; simp
  have d7 : w3.cell? ⟨w2.heap.size + 1, 3, none⟩ = some (.int .i64 ln2) := by rw [hw3]; simp
  obtain ⟨av2, hav2⟩ : ∃ x, x = w2.heap.size + 1 := ⟨_, rfl⟩
  rw [← hav2] at d4 d5 d6 d7
  rw [← hav2]
  obtain ⟨av, hav⟩ : ∃ x, x = w2.heap.size := ⟨_, rfl⟩
  rw [← hav] at d0 d1 d2 d3 Z12 Z23 hav2
  rw [← hav]
  obtain ⟨sb, hsb⟩ : ∃ x, x = w1.heap.size + 1 := ⟨_, rfl⟩
  rw [← hsb]
  obtain ⟨gm, hgm⟩ : ∃ x, x = w3.heap.size := ⟨_, rfl⟩
  have Hsb := hide hsb
  have Hgm := hide hgm
  have Hav2 := hide hav2
  have G03 : Hid (w.grownBy w3 none) := (G01.out.trans G12.out).trans G23.out
  have HMt : Hid (Calls Try.prog 13 #[.slice (some ⟨w.heap.size, 0, none⟩) n n, .slice a' n' cap'] w3 fun e w' => e = .returned (.slice (some ⟨gm, 0, none⟩) n' n') ∧ MatRow w' gm w.heap.size n' n' p S L ∧ w3.grownBy w' none ∧ gm < w'.heap.size) := by
    rw [hgm]
    exact matches_full (B := w.heap.size) w.heap.size n a' n' cap' p S L w3 h2' h1' Hp.out G03.out.size (HM0.out.below (grownBy_below G03.out))
  have D0 := hide d0
  have D1 := hide d1
  have D2 := hide d2
  have D3 := hide d3
  have D4 := hide d4
  have D5 := hide d5
  have D6 := hide d6
  have D7 := hide d7
  clear hw3 hav hsb hgm hav2 d0 d1 d2 d3 d4 d5 d6 d7
  refine HMt.out.mono ?_
  rintro e w4 ⟨rfl, hm4, hg4, hz4⟩
  have z12 := Z12.out
  have z23 := Z23.out
  have zg1 := HG1.out
  have zsb := Hsb.out
  have zgm := Hgm.out
  have zav := Hav2.out
  have zg := hg4.size
  obtain ⟨hR, hH⟩ := ready (w3 := w3) HPR.out zg1 E2.out G23.out hg4 (by rw [← zgm]; exact hm4) Hp.out
  rw [← zgm, ← zsb] at hR
  have Hsz := hide (msOf_sized HS.out HM0.out Hp.out)
  have k1 : sb < w4.heap.size ∧ sb ≠ w1.heap.size := ⟨by omega, by omega⟩
  have k2 : gm < w4.heap.size ∧ gm ≠ w1.heap.size := ⟨by omega, by omega⟩
  have k3 : w.heap.size < w4.heap.size ∧ w.heap.size ≠ w1.heap.size := ⟨by omega, by omega⟩
  have k4 : av < w4.heap.size ∧ av ≠ w1.heap.size := ⟨by omega, by omega⟩
  have k5 : av2 < w4.heap.size ∧ av2 ≠ w1.heap.size := ⟨by omega, by omega⟩
  have K1 := hide k1
  have K2 := hide k2
  have K3 := hide k3
  have K4 := hide k4
  have K5 := hide k5
  have Z1 := hide (zadd_any _ n' 0 w4.heap.size w1.heap.size sb gm w.heap.size p so co pa ln (fun _ => []) w4 h2' Hsz.out (.inl rfl) hH (fun _ _ => rfl) (fun _ => Nat.zero_le _) hR k1 k2 k3)
  have HR4 := hide hR
  have G34 := hide hg4
  have G04 := hide (G03.out.trans hg4)
  have d0 := hg4.cell D0.out (by simp)
  have d1 := hg4.cell D1.out (by simp)
  have d2 := hg4.cell D2.out (by simp)
  have d3 := hg4.cell D3.out (by simp)
  clear z12 z23 zg1 zsb zgm zav zg hR hH k1 k2 k3 k4 k5 hm4 hg4 hz4 HMt
  go_wp2_with fail
  refine Z1.out.mono ?_
  rintro e w5 ⟨rfl, hh5, hk5⟩
  have hR5 := HR4.out.kept hk5 K1.out K2.out K3.out
  have hh5' := hh5.congr (ls' := fun r => if r < n' then [] ++ hits (msOf T N E p S L).key (msOf T N E p S L).ln ⟨so, co, pa, ln⟩ r n' else []) (fun i hi => by simp only [if_pos hi])
  have Z2 := hide (zadd_any _ n' n' w4.heap.size w1.heap.size sb gm w.heap.size p so2 co2 pa2 ln2 _ w5 h2' Hsz.out (.inr rfl) hh5' (fun r hr => by simp only [if_neg (Nat.not_lt.2 hr)]) (fun r => by
    by_cases h : r < n'
    · simp only [if_pos h, List.nil_append]; exact hits_len _ _ _ _ _
    · simp only [if_neg h]; exact Nat.zero_le _) hR5 K1.out K2.out K3.out)
  have HK5 := hide hk5
  have HR5 := hide hR5
  have d4 := (hk5.cell (p := ⟨av2, 0, none⟩) K5.out.1 K5.out.2).trans (G34.out.cell D4.out (by simp))
  have d5 := (hk5.cell (p := ⟨av2, 1, none⟩) K5.out.1 K5.out.2).trans (G34.out.cell D5.out (by simp))
  have d6 := (hk5.cell (p := ⟨av2, 2, none⟩) K5.out.1 K5.out.2).trans (G34.out.cell D6.out (by simp))
  have d7 := (hk5.cell (p := ⟨av2, 3, none⟩) K5.out.1 K5.out.2).trans (G34.out.cell D7.out (by simp))
  clear Z1 hh5 hh5' hk5 hR5 d0 d1 d2 d3
  go_wp2_with fail
  refine Z2.out.mono ?_
  rintro e w6 ⟨rfl, hh6, hk6⟩
  have KK := HK5.out.trans hk6
  have hR6 := HR5.out.kept hk6 K1.out K2.out K3.out
  have d4 := (KK.cell (p := ⟨av2, 0, none⟩) K5.out.1 K5.out.2).trans (G34.out.cell D4.out (by simp))
  have d5 := (KK.cell (p := ⟨av2, 1, none⟩) K5.out.1 K5.out.2).trans (G34.out.cell D5.out (by simp))
  have d6 := (KK.cell (p := ⟨av2, 2, none⟩) K5.out.1 K5.out.2).trans (G34.out.cell D6.out (by simp))
  have d7 := (KK.cell (p := ⟨av2, 3, none⟩) K5.out.1 K5.out.2).trans (G34.out.cell D7.out (by simp))
  have d0 := (KK.cell (p := ⟨av, 0, none⟩) K4.out.1 K4.out.2).trans (G34.out.cell D0.out (by simp))
  have d1 := (KK.cell (p := ⟨av, 1, none⟩) K4.out.1 K4.out.2).trans (G34.out.cell D1.out (by simp))
  have d2 := (KK.cell (p := ⟨av, 2, none⟩) K4.out.1 K4.out.2).trans (G34.out.cell D2.out (by simp))
  have d3 := (KK.cell (p := ⟨av, 3, none⟩) K4.out.1 K4.out.2).trans (G34.out.cell D3.out (by simp))
  have zz := K1.out.1
  have zsb := Hsb.out
  have B06 : Hid (Below w.heap.size w w6) := ((grownBy_below G04.out).trans (KK.below (H := w.heap.size) (Nat.le_of_lt HG1.out) (by omega)))
  have G67 := World.grownBy_alloc w6 (.cells #[.string so, .string co, .string pa, .int .i64 ln, .string so2, .string co2, .string pa2, .int .i64 ln2] 34) none
  have B07 := B06.out.grown G67 (Nat.le_trans G04.out.size KK.size) (fun k e => by cases e)
  have HAR := hide (are_any (D := w.heap.size) T N E S p L n' n cap cap' 2 w6.heap.size w4.heap.size w1.heap.size sb a a' (fun c => if c = 0 then ⟨so, co, pa, ln⟩ else ⟨so2, co2, pa2, ln2⟩) _ h2' h1' (by omega) (HS.out.below B07) (HM0.out.below B07) Hp.out
    ((hh6.still G67).congr (fun i hi => by simp only [if_pos hi]; rfl)) (ats_two w6 ⟨so, co, pa, ln⟩ ⟨so2, co2, pa2, ln2⟩) (G67.cell hR6.s1 (by simp)))
  have HB7 := hide B07
  clear KK hR6 zz zsb B06 G67 B07 hh6 hk6 Z2
  go_wp2_with fail
  refine HAR.out.mono ?_
  rintro e w8 ⟨rfl, g8⟩
  have HB8 := hide (HB7.out.grown g8 HB7.out.size (fun k e => by cases e))
  clear g8
  go_wp2_with fail
  go_ret
  exact ⟨rfl, HB8.out⟩

end Go.Proofs.Qxb6612310a

import Derived.Test.Qxb6612310aSmall
import Derived.BigQuiet
namespace Go.Proofs.Qxb6612310a
open Go.RowKit Plain
set_option linter.unusedVariables false
set_option linter.unusedSimpArgs false

/-- The cells of the row 'ats'. -/
structure Ats (w : World) (ga C : Nat) (ats : Nat → Plain.Loc) : Prop where
  so : ∀ c, c < C → w.cell? ⟨ga, c * 4, none⟩ = some (.string (ats c).so)
  co : ∀ c, c < C → w.cell? ⟨ga, c * 4 + 1, none⟩ = some (.string (ats c).co)
  pa : ∀ c, c < C → w.cell? ⟨ga, c * 4 + 2, none⟩ = some (.string (ats c).pa)
  ln : ∀ c, c < C → w.cell? ⟨ga, c * 4 + 3, none⟩ = some (.int .i64 (ats c).ln)
theorem Ats.kept {w w' : World} {ga C : Nat} {ats : Nat → Plain.Loc} (h : Ats w ga C ats) (hg : w.grownBy w' none) : Ats w' ga C ats :=
  ⟨fun i hi => hg.cell (h.so i hi) (by simp), fun i hi => hg.cell (h.co i hi) (by simp), fun i hi => hg.cell (h.pa i hi) (by simp), fun i hi => hg.cell (h.ln i hi) (by simp)⟩

theorem grown_drew (w : World) (row : Option Nat) : w.grownBy w.drew row := ⟨rfl, rfl, rfl, Nat.le_refl _, fun _ _ _ => rfl⟩

theorem cell_lt {w : World} {b o : Nat} {v : Value} (h : w.cell? ⟨b, o, none⟩ = some v) : b < w.heap.size := by
  rcases Nat.lt_or_ge b w.heap.size with h1 | h1
  · exact h1
  · simp [World.cell?, Array.getElem?_eq_none h1] at h

set_option maxRecDepth 100000 in
set_option maxHeartbeats 4000000 in
theorem are_some (M : Ms) (n ns cs cm b o b' o' C ga B bm sb : Nat) (p : Nat → Nat) (ats : Nat → Plain.Loc) (blk row cap : Nat → Nat) (w : World) (hn : (n : Int) ≤ 4096) (hns : (ns : Int) ≤ 65536) (hC : (C : Int) ≤ 2) (hs : M.sized n)
    (hS : Sc M n n B bm w blk row cap (fun r => all M.key M.ln ats n r C)) (hA : Ats w ga C ats) (s1 : w.cell? ⟨sb, 1, none⟩ = some (.map (some bm))) (hG : Given M w b o b' o' ns n p) :
    Calls Try.prog 14 #[.pointer (some ⟨sb, 0, none⟩), .slice (some ⟨b, o, none⟩) ns cs, .slice (some ⟨b', o', none⟩) n cm, .slice (some ⟨ga, 0, none⟩) C C] w fun e w' => e = .returned (.bool true) ∧ w.grownBy w' none := by
  have Hs := hide hs
  have HS := hide hS
  have HA := hide hA
  have HG := hide hG
  have S1 := hide s1
  clear hs hS hA s1 hG
  go_enter Try.func14, Try.ntmps14
  go_wp2_with fail
  go_loopw [9, 10] (fun d u wr => ∃ i : Nat, i ≤ n ∧ u = .int .i64 i ∧ d = .int .i64 (cnt M.key i) ∧ w.grownBy wr none) (fun _ u _ => n - (intOf u).toNat)
  case atStart => exact ⟨0, Nat.zero_le _, rfl, rfl, World.grownBy.refl _ _⟩
  case round =>
    obtain ⟨i, hin, rfl, rfl, hK⟩ := hrel
    have HK := hide hK
    clear hK
    have hci := cnt_le M.key i
    obtain ⟨ci, hci'⟩ : ∃ x, x = cnt M.key i := ⟨_, rfl⟩
    rw [← hci']
    rw [← hci'] at hci
    have Hci := hide hci'
    clear hci'
    by_cases hlt : i < n
    · go_wp2_with fail
      go_loopw [11, 12] (fun f u wi => ∃ j : Nat, j ≤ i ∧ u = .int .i64 j ∧ f = .bool true ∧ (∀ x, x < j → M.key x ≠ M.key i) ∧ w.grownBy wi none) (fun _ u _ => i - (intOf u).toNat)
      case atStart => exact ⟨0, Nat.zero_le _, rfl, rfl, fun x hx => absurd hx (Nat.not_lt_zero _), HK.out⟩
      case round =>
        obtain ⟨j, hji, rfl, rfl, hno, hK2⟩ := hrel
        have HK2 := hide hK2
        have HN := hide hno
        clear hK2 hno
        by_cases hjl : j < i
        · by_cases hsame : M.key i = M.key j
          · have e : Hid (same M i j = true) := by show _ = _; simp [same, hsame]
            have Hsm := hide hsame
            clear hsame
            go_wp2_with fail
            refine (sameKey_any M b o b' o' ns n cs cm i j p _ hn hns (HG.out.kept HK2.out) hlt (by omega)).mono ?_
            rintro e1 w1 ⟨rfl, d, rfl⟩
            rw [e.out]
            go_wp2_with fail
            have hrn : rep M.key i ≠ i := fun h => (first_iff M.key i).1 h j hjl Hsm.out.symm
            exact ⟨⟨i + 1, by omega, by go_num, by rw [Hci.out]; simp [cnt, hrn], HK2.out.trans (grown_drewN _ _ _)⟩, by simp [intOf]; omega⟩
          · have e : Hid (same M i j = false) := by show _ = _; simp [same, hsame]
            have HN2 : Hid (∀ x, x < j + 1 → M.key x ≠ M.key i) := by
              intro x hx
              rcases Nat.lt_or_ge x j with h | h
              · exact HN.out x h
              · obtain rfl : x = j := by omega
                exact fun h => hsame h.symm
            clear hsame
            go_wp2_with fail
            refine (sameKey_any M b o b' o' ns n cs cm i j p _ hn hns (HG.out.kept HK2.out) hlt (by omega)).mono ?_
            rintro e1 w1 ⟨rfl, d, rfl⟩
            rw [e.out]
            go_wp2_with fail
            go_roundw
            case rel => exact ⟨j + 1, by omega, by go_num, rfl, HN2.out, HK2.out.trans (grown_drewN _ _ _)⟩
            case measure => simp [intOf]; omega
        · obtain rfl : j = i := by omega
          have Hrr := hide ((first_iff M.key j).2 HN.out)
          have Gr := HG.out.kept HK2.out
          have t0 := Gr.ty j hlt
          have t1 := Gr.nm j hlt
          have t2 := Gr.en j hlt
          have t3 := Gr.pt j hlt
          have t4 := Gr.sc j hlt
          have t5 := Gr.lt j hlt
          clear Gr
          go_wp2_with fail
          obtain ⟨wp, hwp⟩ : ∃ x, x = wr.alloc (.cells #[.string (M.ty j), .string (M.nm j), .string (M.en j)] 42) := ⟨_, rfl⟩
          rw [← hwp]
          have G1 : wr.grownBy wp none := by rw [hwp]; exact World.grownBy_alloc _ _ _
          have v0 : wp.cell? ⟨wr.heap.size, 0, none⟩ = some (.string (M.ty j)) := by rw [hwp]; simp
          have v1 : wp.cell? ⟨wr.heap.size, 1, none⟩ = some (.string (M.nm j)) := by rw [hwp]; simp
          have v2 : wp.cell? ⟨wr.heap.size, 2, none⟩ = some (.string (M.en j)) := by rw [hwp]; simp
          have t4 := G1.cell t4 (by simp)
          have HK3 := hide (HK2.out.trans G1)
          obtain ⟨pv, hpv⟩ : ∃ x, x = wr.heap.size := ⟨_, rfl⟩
          rw [← hpv] at v0 v1 v2
          rw [← hpv]
          clear hwp G1 t0 t1 t2 t3 hpv
          have s1 := HK3.out.cell S1.out (by simp)
          have HS3 := hide (HS.out.still HK3.out)
          have F := HS3.out.fnd j hlt Hrr.out
          have c0 := F.c0
          have c1 := F.c1
          have c2 := F.c2
          have c3 := F.c3
          have c4 := F.c4
          have HF := hide F
          clear F
          have HFC := hide (finding_any M n n bm sb j blk wp.drew (HS3.out.map.kept (grown_drew _ none) (by simp)) Hs.out hlt (by rw [Hrr.out]; exact hlt) s1)
          rw [Hrr.out] at HFC
          obtain ⟨fb, hfb⟩ : ∃ x, x = blk j := ⟨_, rfl⟩
          obtain ⟨ll, hll⟩ : ∃ x, x = all M.key M.ln ats n j C := ⟨_, rfl⟩
          obtain ⟨g0, hg0⟩ : ∃ x, x = row j := ⟨_, rfl⟩
          obtain ⟨cp, hcp⟩ : ∃ x, x = cap j := ⟨_, rfl⟩
          rw [← hfb] at HFC c0 c1 c2 c3 c4 HF
          rw [← hll] at c3 HF
          rw [← hg0] at c3 HF
          rw [← hcp] at c3 HF
          obtain ⟨m, hm⟩ : ∃ x, x = ll.length := ⟨_, rfl⟩
          rw [← hm] at c3
          have hmb : (m : Int) ≤ 8192 := by
            have := all_len M.key M.ln ats n j C
            rw [← hll, ← hm] at this
            have h2 : C * n ≤ 2 * 4096 := Nat.mul_le_mul (by omega) (by omega)
            omega
          have Hfb := hide hfb
          have Hg0 := hide hg0
          have Hcp := hide hcp
          have Hll := hide hll
          have Hm := hide hm
          clear hfb hll hg0 hcp hm
          go_region_held3 (fun w' => w'.cell? ⟨pv, 0, none⟩ = some (.string (M.ty j)) ∧ w'.cell? ⟨b', o' + j * 3 + 1, none⟩ = some (.string (M.sc j))) (go_keep) (first | (go_at_call 19; refine HFC.out.mono ?_; rintro e w' ⟨rfl, rfl⟩))
          go_wp2_with fail
          go_quiet (fail)
          go_wp2_with fail
          have HK4 : Hid (w.grownBy (wp.drew.drewN nq) none) := (HK3.out.trans (grown_drew _ _)).trans (grown_drewN _ _ _)
          have Hlt := hide hlt
          clear v0 v1 v2 t4 s1 c0 c1 c2 c3 c4 HF HS3 HFC
          go_loopw [15, 16] (fun k u wc => ∃ c : Nat, c ≤ C ∧ u = .int .i64 c ∧ k = .int .i64 ((all M.key M.ln ats n j c).length : Nat) ∧ w.grownBy wc none) (fun _ u _ => C - (intOf u).toNat)
          case atStart => exact ⟨0, Nat.zero_le _, rfl, rfl, HK4.out⟩
          case round =>
            obtain ⟨c, hcC, rfl, rfl, hK5⟩ := hrel
            have HK5 := hide hK5
            clear hK5
            have hkc := all_len M.key M.ln ats n j c
            have hcn : c * n ≤ 2 * 4096 := Nat.mul_le_mul (by omega) (by omega)
            obtain ⟨kc, ekc⟩ : ∃ x, x = (all M.key M.ln ats n j c).length := ⟨_, rfl⟩
            rw [← ekc]
            rw [← ekc] at hkc
            have Hkc := hide ekc
            have hkcb : (kc : Int) ≤ 8192 := by omega
            clear ekc hkc hcn
            by_cases hcl : c < C
            · go_wp2_with fail
              go_loopw [15, 17] (fun k u wj => ∃ x : Nat, j ≤ x ∧ x ≤ n ∧ u = .int .i64 x ∧ k = .int .i64 (kc + (hits M.key M.ln (ats c) j x).length : Nat) ∧ w.grownBy wj none) (fun _ u _ => n - (intOf u).toNat)
              case atStart => exact ⟨j, Nat.le_refl _, hin, rfl, by rw [hits_none _ _ _ _ Hrr.out j (Nat.le_refl _)]; rfl, HK5.out⟩
              case round =>
                obtain ⟨x, hjx, hxn, rfl, rfl, hK6⟩ := hrel
                have HK6 := hide hK6
                clear hK6
                have hkx := hits_len M.key M.ln (ats c) j x
                obtain ⟨kx, ekx⟩ : ∃ y, y = kc + (hits M.key M.ln (ats c) j x).length := ⟨_, rfl⟩
                rw [← ekx]
                have hkxb : (kx : Int) ≤ 16384 := by omega
                have Hkx := hide ekx
                clear ekx hkx
                by_cases hxl : x < n
                · by_cases hsame : M.key j = M.key x
                  · have e : Hid (same M j x = true) := by show _ = _; simp [same, hsame]
                    have HKX : Hid (kx + 1 = kc + (hits M.key M.ln (ats c) j (x + 1)).length) := by
                      show _ = _
                      rw [hits_yes _ _ _ _ _ hsame.symm, List.length_append, Hkx.out]
                      rfl
                    obtain ⟨rr, hrr⟩ := all_next M.key M.ln ats n j c C x hcl hxl hsame.symm
                    rw [← Hll.out] at hrr
                    have hlen : (all M.key M.ln ats n j c ++ hits M.key M.ln (ats c) j x).length = kx := by rw [List.length_append, Hkx.out, Hkc.out]
                    have hkm : kx < m := by rw [Hm.out, hrr, List.length_append, hlen]; simp
                    have W6 := HS.out.fnd j hlt Hrr.out
                    rw [← Hfb.out, ← Hg0.out, ← Hcp.out, ← Hll.out] at W6
                    have HW6 := hide W6
                    have CELLS : Hid (∀ f, f < 4 → (cells ll)[kx * 4 + f]? = (cellsOf ((ats c).at (M.ln x)))[f]?) := by
                      intro f hf
                      have := cells_at ((ats c).at (M.ln x)) (all M.key M.ln ats n j c ++ hits M.key M.ln (ats c) j x) rr f hf
                      rw [hlen, ← hrr] at this
                      exact this
                    clear hsame hrr hlen W6
                    go_wp2_with fail
                    refine (sameKey_any M b o b' o' ns n cs cm j x p _ hn hns (HG.out.kept HK6.out) hlt hxl).mono ?_
                    rintro e1 w1 ⟨rfl, d, rfl⟩
                    rw [e.out]
                    have HK7 := hide (HK6.out.trans (grown_drewN wr d none))
                    obtain ⟨wd, hwd⟩ : ∃ y, y = wr.drewN d := ⟨_, rfl⟩
                    rw [← hwd]
                    rw [← hwd] at HK7
                    clear hwd
                    have F := HW6.out.kept HK7.out (by simp) (by simp)
                    have c3 := F.c3
                    rw [← Hm.out] at c3
                    have hfbs := F.hbs
                    have hgs := F.hg.2
                    have own := F.own
                    have r0 := (own.cellAt (kx * 4) (by rw [← Hm.out]; omega)).trans (CELLS.out 0 (by omega))
                    have r1 := (own.cellAt (kx * 4 + 1) (by rw [← Hm.out]; omega)).trans (CELLS.out 1 (by omega))
                    have r2 := (own.cellAt (kx * 4 + 2) (by rw [← Hm.out]; omega)).trans (CELLS.out 2 (by omega))
                    have r3 := (own.cellAt (kx * 4 + 3) (by rw [← Hm.out]; omega)).trans (CELLS.out 3 (by omega))
                    have A7 := HA.out.kept HK7.out
                    have a0 := A7.so c hcl
                    have a1 := A7.co c hcl
                    have a2 := A7.pa c hcl
                    have a3 := A7.ln c hcl
                    have l3 := (HG.out.kept HK7.out).ln x hxl
                    change _ = some (Value.string (ats c).so) at r0
                    change _ = some (Value.string (ats c).co) at r1
                    change _ = some (Value.string (ats c).pa) at r2
                    change _ = some (Value.int .i64 (M.ln x)) at r3
                    have hbl : b' < wd.heap.size := cell_lt l3
                    clear F own A7
                    go_wp2_with fail
                    obtain ⟨ww, hww⟩ : ∃ y, y = wd.alloc (.cells #[.string (ats c).so, .string (ats c).co, .string (ats c).pa, .int .i64 (M.ln x)] 34) := ⟨_, rfl⟩
                    rw [← hww]
                    have G8 : wd.grownBy ww none := by rw [hww]; exact World.grownBy_alloc _ _ _
                    have y0 : ww.cell? ⟨wd.heap.size, 0, none⟩ = some (.string (ats c).so) := by rw [hww]; simp
                    have y1 : ww.cell? ⟨wd.heap.size, 1, none⟩ = some (.string (ats c).co) := by rw [hww]; simp
                    have y2 : ww.cell? ⟨wd.heap.size, 2, none⟩ = some (.string (ats c).pa) := by rw [hww]; simp
                    have y3 : ww.cell? ⟨wd.heap.size, 3, none⟩ = some (.int .i64 (M.ln x)) := by rw [hww]; simp
                    have c3 := G8.cell c3 (by simp)
                    have r0 := G8.cell r0 (by simp)
                    have r1 := G8.cell r1 (by simp)
                    have r2 := G8.cell r2 (by simp)
                    have r3 := G8.cell r3 (by simp)
                    have HK8 := hide (HK7.out.trans G8)
                    obtain ⟨wv, hwv⟩ : ∃ y, y = wd.heap.size := ⟨_, rfl⟩
                    rw [← hwv] at y0 y1 y2 y3
                    rw [← hwv]
                    clear hwv hww G8 a0 a1 a2 a3 l3 hbl hfbs hgs
                    go_quiet (fail)
                    go_wp2_with fail
                    go_roundw
                    case rel => exact ⟨x + 1, by omega, by omega, by go_num, by rw [← HKX.out]; go_num, HK8.out.trans (grown_drewN _ _ _)⟩
                    case measure => simp [intOf]; omega
                  · have e : Hid (same M j x = false) := by show _ = _; simp [same, hsame]
                    have HKX : Hid (kx = kc + (hits M.key M.ln (ats c) j (x + 1)).length) := by
                      show _ = _
                      rw [hits_no _ _ _ _ _ (fun h => hsame h.symm), Hkx.out]
                    clear hsame
                    go_wp2_with fail
                    refine (sameKey_any M b o b' o' ns n cs cm j x p _ hn hns (HG.out.kept HK6.out) hlt hxl).mono ?_
                    rintro e1 w1 ⟨rfl, d, rfl⟩
                    rw [e.out]
                    go_wp2_with fail
                    go_roundw
                    case rel => exact ⟨x + 1, by omega, by omega, by go_num, by rw [HKX.out], HK6.out.trans (grown_drewN _ _ _)⟩
                    case measure => simp [intOf]; omega
                · obtain rfl : x = n := by omega
                  have HKC : Hid (kx = (all M.key M.ln ats x j (c + 1)).length) := by
                    show _ = (all M.key M.ln ats x j c ++ hits M.key M.ln (ats c) j x).length
                    rw [List.length_append, Hkx.out, Hkc.out]
                  go_wp2_with fail
                  go_roundw
                  case rel => exact ⟨c + 1, by omega, by go_num, by rw [HKC.out], HK6.out⟩
                  case measure => simp [intOf]; omega
            · obtain rfl : c = C := by omega
              have F := (HS.out.fnd j hlt Hrr.out).kept HK5.out (by simp) (by simp)
              rw [← Hfb.out, ← Hg0.out, ← Hcp.out, ← Hll.out] at F
              have c3 := F.c3
              have hmk : ll.length = kc := by rw [Hkc.out, Hll.out]
              rw [hmk] at c3
              clear F hmk
              go_wp2_with fail
              exact ⟨⟨j + 1, by omega, by go_num, by have := Hrr.out; rw [Hci.out]; simp [cnt, this], HK5.out⟩, by simp [intOf]; omega⟩
    · obtain rfl : i = n := by omega
      go_wp2_with fail
      refine (foundLen_any M i i bm sb blk _ (HS.out.map.kept HK.out (by simp)) (HK.out.cell S1.out (by simp))).mono ?_
      rintro e1 w1 ⟨rfl, rfl⟩
      rw [← Hci.out]
      go_wp2_with fail
      go_ret
      exact ⟨rfl, HK.out⟩

end Go.Proofs.Qxb6612310a

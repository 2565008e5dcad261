import Derived.Test.Qxb6612374aEdit
namespace Go.Proofs.Qxb6612374a
open Go.RowKit Plain
set_option linter.unusedVariables false
set_option linter.unusedSimpArgs false

/-- What 'rewrite' keeps true of the nodes written: each is a node; so many are few. -/
def Good (one : Bool) (n : Nat) (L : List (Nat × Nat)) : Prop := ∀ x, x ∈ L → Plain.Node one n x

/-- The level that a node's box holds: for the measure. -/
def levelOf (w : World) (b : Nat) : Nat := match w.cell? ⟨b, 0, none⟩ with | some (.int _ l) => l.toNat | _ => 0
theorem levelOf_eq {w : World} {b : Nat} {k : IntKind} {l : Nat} (h : w.cell? ⟨b, 0, none⟩ = some (.int k l)) : levelOf w b = l := by
  unfold levelOf
  rw [h]
  simp

theorem WrMap.drew {w : World} {b : Nat} {L : List (Nat × Nat)} (h : WrMap w b L) : WrMap w.drew b L := h.kept (grown_drew _ none) (by simp)
theorem WrMap.alloc {w : World} {b : Nat} {L : List (Nat × Nat)} (h : WrMap w b L) (o : Obj) : WrMap (w.alloc o) b L := h.kept (World.grownBy_alloc _ _ none) (by simp)

/-- The look-up in the walk's own spelling. -/
theorem WrMap.lookIn {w : World} {b : Nat} {L : List (Nat × Nat)} (h : WrMap w b L) {l i : Nat} (hl : l ≤ 2) (hi : i ≤ 65536) (hin : (l, i) ∈ L) :
    (Instr.lookup 54 (.map (some b)) (.agg #[.int .i64 l, .int .i64 i]) true).run Try.prog w = .ok (.tuple #[.agg #[.int .u64 0, .int .u32 0], .bool true]) w := by
  have := h.look hl hi
  rw [show decide ((l, i) ∈ L) = true by simpa using hin] at this
  exact this
theorem WrMap.lookOut {w : World} {b : Nat} {L : List (Nat × Nat)} (h : WrMap w b L) {l i : Nat} (hl : l ≤ 2) (hi : i ≤ 65536) (hin : (l, i) ∉ L) :
    (Instr.lookup 54 (.map (some b)) (.agg #[.int .i64 l, .int .i64 i]) true).run Try.prog w = .ok (.tuple #[.agg #[.int .u64 0, .int .u32 0], .bool false]) w := by
  have := h.look hl hi
  rw [show decide ((l, i) ∈ L) = false by simpa using hin] at this
  exact this

/-- The box of the node in hand. -/
structure Box (w : World) (b l i : Nat) : Prop where
  c0 : w.cell? ⟨b, 0, none⟩ = some (.int .i64 l)
  c1 : w.cell? ⟨b, 1, none⟩ = some (.int .i64 i)
  f0 : w.frozen? ⟨b, 0, none⟩ = false
  f1 : w.frozen? ⟨b, 1, none⟩ = false
theorem Box.lt {w : World} {b l i : Nat} (h : Box w b l i) : b < w.heap.size := World.block_lt_of_cell? _ _ h.c0
theorem Box.kept {w w' : World} {b l i : Nat} {row : Option Nat} (h : Box w b l i) (hg : w.grownBy w' row) (hne : some b ≠ row) : Box w' b l i := by
  have hb := hg.block b h.lt hne
  exact ⟨hg.cell h.c0 hne, hg.cell h.c1 hne, (World.frozen?_of_block (w := w) (a := ⟨b, 0, none⟩) hb).trans h.f0, (World.frozen?_of_block (w := w) (a := ⟨b, 1, none⟩) hb).trans h.f1⟩

/-- All that a round knows of its world. -/
structure Rd (one : Bool) (w wr : World) (be bo bl bw n l i : Nat) (Lr : List (Nat × Nat)) : Prop where
  box : Box wr w.heap.size l i
  ed : Ed one wr be bo bl bw
  shp : Shaped wr be n
  map : WrMap wr bw Lr
  grown : w.grownBy wr (some bw)
theorem Rd.still {one : Bool} {w wr wr' : World} {be bo bl bw n l i : Nat} {Lr : List (Nat × Nat)} (h : Rd one w wr be bo bl bw n l i Lr) (hg : wr.grownBy wr' none) : Rd one w wr' be bo bl bw n l i Lr := by
  have hg' : wr.grownBy wr' (some bw) := ⟨hg.os, hg.tape, hg.output, hg.size, fun k hk _ => hg.block k hk (by simp)⟩
  exact ⟨h.box.kept hg (by simp), h.ed.kept h.map hg', h.shp.kept h.map hg', h.map.kept hg (by simp), h.grown.trans hg'⟩
theorem Rd.put {one : Bool} {w wr wr' : World} {be bo bl bw n l i : Nat} {Lr Lr' : List (Nat × Nat)} (h : Rd one w wr be bo bl bw n l i Lr) (hm : WrMap wr' bw Lr') (hg : wr.grownBy wr' (some bw)) : Rd one w wr' be bo bl bw n l i Lr' :=
  ⟨h.box.kept hg (h.map.ne h.box.c0), h.ed.kept h.map hg, h.shp.kept h.map hg, hm, h.grown.trans hg⟩

theorem Rd.next {one : Bool} {w w3 w4 : World} {be bo bl bw n l i : Nat} {L Lr : List (Nat × Nat)} (h : Rd one w w3 be bo bl bw n l i Lr) (hE : Ed one w be bo bl bw) (hS : Shaped w be n) (hM : WrMap w bw L) (q l' i' : Nat)
    (h4 : w4 = (((w3.drewN q).setCell ⟨w.heap.size, 0, none⟩ (.int .i64 l')).setCell ⟨w.heap.size, 1, none⟩ (.int .i64 i'))) :
    Rd one w w4 be bo bl bw n l' i' Lr := by
  subst h4
  have hg := grown_new (grown_new (h.grown.trans (grown_drewN w3 q _)) w.heap.size 0 (.int .i64 l') (Nat.le_refl _)) w.heap.size 1 (.int .i64 i') (Nat.le_refl _)
  have hne : some bw ≠ some w.heap.size := fun e => h.map.ne h.box.c0 e.symm
  have hg3 : w3.grownBy (((w3.drewN q).setCell ⟨w.heap.size, 0, none⟩ (.int .i64 l')).setCell ⟨w.heap.size, 1, none⟩ (.int .i64 i')) (some w.heap.size) :=
    ⟨rfl, rfl, rfl, by simp, fun k hk hn => (Below.heap_setCell _ _ _ _ (fun e => hn (by rw [e]))).trans (Below.heap_setCell _ _ _ _ (fun e => hn (by rw [e])))⟩
  refine ⟨⟨?_, ?_, ?_, ?_⟩, hE.kept hM hg, hS.kept hM hg, h.map.kept hg3 hne, hg⟩
  · rw [World.cell?_setCell_other _ _ _ _ (by simp)]
    exact World.cell?_setCell_same _ _ _ (u := .int .i64 l) h.box.c0
  · exact World.cell?_setCell_same _ _ _ (u := .int .i64 i) (by rw [World.cell?_setCell_other _ _ _ _ (by simp)]; exact h.box.c1)
  · rw [World.frozen?_setCell, World.frozen?_setCell]; exact h.box.f0
  · rw [World.frozen?_setCell, World.frozen?_setCell]; exact h.box.f1

set_option maxHeartbeats 2000000 in
theorem rewrite_any {one : Bool} {be bo bl bw : Nat} (n l0 i0 : Nat) (L : List (Nat × Nat)) (w : World) (hn : n ≤ 65536) (hE : Ed one w be bo bl bw) (hS : Shaped w be n) (hM : WrMap w bw L) (hG : Good one n L) (hN : Plain.Node one n (l0, i0)) :
    Calls Try.prog 24 #[.pointer (some ⟨be, 0, none⟩), .agg #[.int .i64 l0, .int .i64 i0]] w fun e w' => e = .returned (.tuple #[]) ∧ w.grownBy w' (some bw) ∧
      ∃ L', WrMap w' bw L' ∧ Good one n L' ∧ (∀ x, x ∈ L → x ∈ L') ∧ (l0, i0) ∈ L' := by
  have HE := hide hE
  have HS := hide hS
  have HM := hide hM
  have HG := hide hG
  have HN := hide hN
  have HN6 := hide hn
  clear hE hS hM hG hN hn
  go_enter Try.func24, Try.ntmps24
  go_wp2_with fail
  go_loopw [5] (fun _ wr => ∃ (l i : Nat) (Lr : List (Nat × Nat)), Plain.Node one n (l, i) ∧ Rd one w wr be bo bl bw n l i Lr ∧ Good one n Lr ∧ (∀ x, x ∈ L → x ∈ Lr) ∧ ((l, i) = (l0, i0) ∨ (l0, i0) ∈ Lr)) (fun _ wr => 3 - levelOf wr w.heap.size)
  case atStart =>
    have hg := World.grownBy_alloc w (.cells #[.int .i64 l0, .int .i64 i0] 63) (some bw)
    refine ⟨l0, i0, L, HN.out, ⟨⟨by simp, by simp, by simp, by simp⟩, HE.out.kept HM.out hg, HS.out.kept HM.out hg, HM.out.alloc _, hg⟩, HG.out, fun x hx => hx, .inl rfl⟩
  case round =>
    obtain ⟨l, i, Lr, hN, hR, hG, hsub, hor⟩ := hrel
    have hbd := hN.bounds HN6.out
    have hl2 : l ≤ 2 := hbd.1
    have hi6 : i ≤ 65536 := by have := hbd.2; omega
    have c3 := hR.ed.c3
    have b0 := hR.box.c0
    have b1 := hR.box.c1
    have hbB := hR.box.lt
    have HLR := hide (levelOf_eq hR.box.c0)
    have hbe : be < wr.heap.size := World.block_lt_of_cell? _ _ c3
    have HN1 := hide hN
    have HR := hide hR
    have HG1 := hide hG
    have HSB := hide hsub
    have HOR := hide hor
    clear hN hR hG hsub hor hbd
    by_cases hin : (l, i) ∈ Lr
    · have k1 := HR.out.map.drew.lookIn hl2 hi6 hin
      have k2 := fun o => (HR.out.map.alloc o).drew.lookIn hl2 hi6 hin
      have HIN := hide hin
      clear hin hi6
      go_wp2_with fail
      go_region
      go_wp2_with fail
      refine bodyPost_ret (results_none rfl _ _ _) rfl ?_
      have hr' := HR.out.still ((World.grownBy_alloc wr (.cells #[.int .u64 0, .int .u32 0] 60) _).trans (grown_drew _ _))
      refine ⟨rfl, hr'.grown, Lr, hr'.map, HG1.out, HSB.out, ?_⟩
      rcases HOR.out with e | e
      · rw [← e]; exact HIN.out
      · exact e
    · have k1 := HR.out.map.drew.lookOut hl2 hi6 hin
      have k2 := fun o => (HR.out.map.alloc o).drew.lookOut hl2 hi6 hin
      have HIN := hide hin
      have HI6 := hide hi6
      clear hin hi6
      go_wp2_with fail
      go_region
      go_wp2_with fail
      have hRa := HR.out.still ((World.grownBy_alloc wr (.cells #[.int .u64 0, .int .u32 0] 60) _).trans (grown_drew _ _))
      have HRa := hide hRa
      clear hRa k1 k2 b0 b1 c3 hbB hbe HR
      generalize (wr.alloc (.cells #[.int .u64 0, .int .u32 0] 60)).drew = wa at HRa ⊢
      have c3 := HRa.out.ed.c3
      have b0 := HRa.out.box.c0
      have b1 := HRa.out.box.c1
      obtain ⟨w1, hrun, hm1, hg1⟩ := HRa.out.map.drew.put hl2 HI6.out HIN.out (Nat.le_trans (nodes_few HN6.out HRa.out.map.1 HG1.out) (by omega))
      have hrun' : (Instr.mapUpdate 54 (.map (some bw)) (.agg #[.int .i64 l, .int .i64 i]) (.agg #[.int .u64 0, .int .u32 0])).run Try.prog wa.drew = .ok () w1 := hrun
      have HR1 := hide ((HRa.out.still (grown_drew _ _)).put hm1 hg1)
      clear hrun hm1 hg1
      go_region
      clear hrun' c3 b0 b1
      have b0 := HR1.out.box.c0
      have b1 := HR1.out.box.c1
      go_wp2_with fail
      refine (oldPage_any n l i _ HR1.out.ed HN1.out).mono ?_
      rintro e w2 ⟨rfl, hg2⟩
      have HR2 := hide (HR1.out.still hg2)
      clear hg2 b0 b1 HR1 HRa
      have hB2 := HR2.out.box.lt
      go_wp2_with fail
      have HR3 := hide (HR2.out.still (World.grownBy_alloc w2 (.cells #[.int .u64 0, .int .u32 0] 60) _))
      clear HR2 hB2
      generalize w2.alloc (.cells #[.int .u64 0, .int .u32 0] 60) = w3 at HR3 ⊢
      have b0 := HR3.out.box.c0
      have b1 := HR3.out.box.c1
      have f0 := HR3.out.box.f0
      have f1 := HR3.out.box.f1
      obtain ⟨bs, cap, sc, hsc⟩ := HR3.out.shp
      clear hsc
      have HG3 : Hid (Good one n (Lr ++ [(l, i)])) := by
        intro x hx
        rcases List.mem_append.1 hx with hx | hx
        · exact HG1.out x hx
        · simp at hx; subst hx; exact HN1.out
      have HSB3 : Hid (∀ x, x ∈ L → x ∈ Lr ++ [(l, i)]) := fun x hx => List.mem_append_left _ (HSB.out x hx)
      have HOR3 : Hid ((l0, i0) ∈ Lr ++ [(l, i)]) := by
        rcases HOR.out with e | e
        · rw [← e]; exact List.mem_append_right _ (List.mem_singleton_self _)
        · exact List.mem_append_left _ e
      obtain ⟨t, ht⟩ : ∃ t, t = top n + 1 := ⟨_, rfl⟩
      rw [← ht] at sc
      by_cases hlt : l < top n
      · have hge : ¬ (t : Int) ≤ (l : Int) + 1 := by omega
        have HLT := hide hlt
        have hi' : (i : Int) ≤ 65536 := by have := HI6.out; omega
        clear ht hlt
        have e1 : Hid ((l : Int) + 1 = ((l + 1 : Nat) : Int)) := by show _ = _; omega
        have e2 : Hid ((i : Int) / 339 = ((i / 339 : Nat) : Int)) := by show _ = _; omega
        go_quiet (fail)
        go_wp2_with fail
        have HR4 := hide (HR3.out.next HE.out HS.out HM.out nq (l + 1) (i / 339) rfl)
        have HL3 := hide (levelOf_eq HR3.out.box.c0)
        have HL4 := hide (levelOf_eq HR4.out.box.c0)
        rw [e1.out, e2.out]
        go_roundw
        case rel => exact ⟨l + 1, i / 339, _, HN1.out.parent HLT.out, HR4.out, HG3.out, HSB3.out, .inr HOR3.out⟩
        case measure =>
          rw [HL4.out, HLR.out]
          omega
      · have hge : (t : Int) ≤ (l : Int) + 1 := by omega
        clear ht hlt
        go_quiet (fail)
        go_wp2_with fail
        refine bodyPost_ret (results_none rfl _ _ _) rfl ?_
        have hr' := HR3.out.still (grown_drewN _ nq _)
        exact ⟨rfl, hr'.grown, _, hr'.map, HG3.out, HSB3.out, HOR3.out⟩

end Go.Proofs.Qxb6612374a

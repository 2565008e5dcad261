import Derived.Test.Qxb6612310aState
import Derived.Deep.RegionHeldLaw
import Derived.Deep.RegionLaw
import Derived.BigQuiet
import Derived.BigRegion
namespace Go.Proofs.Qxb6612310a
open Go.RowKit Plain
set_option linter.unusedVariables false
set_option linter.unusedSimpArgs false

theorem grown_drawn {w w' : World} {row : Option Nat} (h : w.grownBy w' row) : w.grownBy w'.drew row := ⟨h.os, h.tape, h.output, h.size, h.block⟩

theorem heap_new (w : World) (o : Obj) : (w.alloc o).drew.heap[w.heap.size]? = some o := by
  show (w.heap.push o)[w.heap.size]? = _
  simp

/-- What 'add' reads: the scanner's map, the matches, their patterns. -/
structure Reads (M : Ms) (w : World) (sb bm gm gp n : Nat) (p : Nat → Nat) : Prop where
  s1 : w.cell? ⟨sb, 1, none⟩ = some (.map (some bm))
  m0 : ∀ i, i < n → w.cell? ⟨gm, i * 3, none⟩ = some (.pointer (some ⟨gp, p i * 5, none⟩))
  m1 : ∀ i, i < n → w.cell? ⟨gm, i * 3 + 1, none⟩ = some (.string (M.sc i))
  m2 : ∀ i, i < n → w.cell? ⟨gm, i * 3 + 2, none⟩ = some (.int .i64 (M.ln i))
  p0 : ∀ i, i < n → w.cell? ⟨gp, p i * 5, none⟩ = some (.string (M.ty i))
  p1 : ∀ i, i < n → w.cell? ⟨gp, p i * 5 + 1, none⟩ = some (.string (M.nm i))
  p3 : ∀ i, i < n → w.cell? ⟨gp, p i * 5 + 3, none⟩ = some (.string (M.en i))

theorem Reads.kept {M : Ms} {w w' : World} {sb bm gm gp n B : Nat} {p : Nat → Nat} (h : Reads M w sb bm gm gp n p) (hk : Kept B bm w w') (hs : sb < B ∧ sb ≠ bm) (hm : gm < B ∧ gm ≠ bm) (hp : gp < B ∧ gp ≠ bm) : Reads M w' sb bm gm gp n p :=
  ⟨(hk.cell (p := ⟨sb, _, none⟩) hs.1 hs.2).trans h.s1, fun i hi => (hk.cell (p := ⟨gm, _, none⟩) hm.1 hm.2).trans (h.m0 i hi), fun i hi => (hk.cell (p := ⟨gm, _, none⟩) hm.1 hm.2).trans (h.m1 i hi), fun i hi => (hk.cell (p := ⟨gm, _, none⟩) hm.1 hm.2).trans (h.m2 i hi),
   fun i hi => (hk.cell (p := ⟨gp, _, none⟩) hp.1 hp.2).trans (h.p0 i hi), fun i hi => (hk.cell (p := ⟨gp, _, none⟩) hp.1 hp.2).trans (h.p1 i hi), fun i hi => (hk.cell (p := ⟨gp, _, none⟩) hp.1 hp.2).trans (h.p3 i hi)⟩

/-- The state at the head of round i; block X is none of it. -/
def AtRound (M : Ms) (n k0 B bm X : Nat) (a : Plain.Loc) (ls0 : Nat → List Plain.Loc) (i : Nat) (w : World) : Prop :=
  ∃ blk row cap, Sc M n (max k0 i) B bm w blk row cap (fun r => ls0 r ++ hits M.key M.ln a r i) ∧ ∀ j, j < max k0 i → rep M.key j = j → blk j ≠ X ∧ row j ≠ X

/-- A round whose finding is there. -/
theorem round_found {M : Ms} {n k0 B bm X i : Nat} {a : Plain.Loc} {ls0 : Nat → List Plain.Loc} {blk row cap : Nat → Nat} {wk W w1 : World}
    (hS : Sc M n (max k0 i) B bm wk blk row cap (fun r => ls0 r ++ hits M.key M.ln a r i)) (hA : ∀ j, j < max k0 i → rep M.key j = j → blk j ≠ X ∧ row j ≠ X) (hf : rep M.key i < max k0 i) (hX : X < wk.heap.size) (hG : wk.grownBy W none)
    {g c : Nat} (hown : w1.ownsRow B 34 4 (.slice (some ⟨g, 0, none⟩) ((ls0 (rep M.key i) ++ hits M.key M.ln a (rep M.key i) i).length + 1) c) ((ls0 (rep M.key i) ++ hits M.key M.ln a (rep M.key i) i).length + 1) (cells (ls0 (rep M.key i) ++ hits M.key M.ln a (rep M.key i) i) ++ cellsOf (a.at (M.ln i))))
    (hgrow : W.grownBy w1 (some (row (rep M.key i)))) (hat : row (rep M.key i) = g ∨ g = W.heap.size) (hlt : g < w1.heap.size) :
    AtRound M n k0 B bm X a ls0 (i + 1) (w1.setCell ⟨blk (rep M.key i), 3, none⟩ (.slice (some ⟨g, 0, none⟩) ((ls0 (rep M.key i) ++ hits M.key M.ln a (rep M.key i) i).length + 1) c)) := by
  have S1 := (hS.still hG).append hf (rep_rep _ _) hgrow (a.at (M.ln i)) hown hat hlt (ls' := fun r => ls0 r ++ hits M.key M.ln a r (i + 1))
    (by show _ ++ _ = _ ++ _ ++ _; rw [hits_yes _ _ _ _ _ (rep_key M.key i).symm, List.append_assoc])
    (fun x hx hrx hne => by
      show _ ++ _ = _ ++ _
      rw [hits_no]
      intro e
      exact hne (by rw [← hrx]; exact rep_of_key M.key e.symm))
  have hA1 : ∀ j, j < max k0 i → rep M.key j = j → blk j ≠ X ∧ (fun x => if x = rep M.key i then g else row x) j ≠ X := fun j hj hrj => by
    refine ⟨(hA j hj hrj).1, ?_⟩
    by_cases e : j = rep M.key i
    · simp only [if_pos e]
      rcases hat with e' | e'
      · rw [← e']; exact (hA _ hf (rep_rep _ _)).2
      · have := hG.size; omega
    · simp only [if_neg e]; exact (hA j hj hrj).2
  by_cases hk : k0 ≤ i
  · rw [show max k0 i = i by omega] at S1 hA1 hf
    refine ⟨_, _, _, by rw [show max k0 (i + 1) = i + 1 by omega]; exact S1.skip (by omega), ?_⟩
    intro j hj hrj
    rw [show max k0 (i + 1) = i + 1 by omega] at hj
    refine hA1 j ?_ hrj
    rcases Nat.lt_or_ge j i with h | h
    · exact h
    · have : j = i := by omega
      subst this
      omega
  · rw [show max k0 i = k0 by omega] at S1 hA1
    exact ⟨_, _, _, by rw [show max k0 (i + 1) = k0 by omega]; exact S1, by rw [show max k0 (i + 1) = k0 by omega]; exact hA1⟩

/-- A round whose finding is new. -/
theorem round_new {M : Ms} {n k0 B bm X i : Nat} {a : Plain.Loc} {ls0 : Nat → List Plain.Loc} {blk row cap : Nat → Nat} {wk w1 : World}
    (hS : Sc M n (max k0 i) B bm wk blk row cap (fun r => ls0 r ++ hits M.key M.ln a r i)) (hA : ∀ j, j < max k0 i → rep M.key j = j → blk j ≠ X ∧ row j ≠ X) (hf : ¬ rep M.key i < max k0 i) (hl0 : ∀ r, k0 ≤ r → ls0 r = []) (hX : X < wk.heap.size) (hG : wk.grownBy w1 (some bm)) {fb g c : Nat}
    (hmap : FMap M n w1 bm (i + 1) (fun j => if j = i then fb else blk j)) (hfb : wk.heap.size ≤ fb) (hfb1 : fb < w1.heap.size) (hgw : wk.heap.size ≤ g) (hlt : g < w1.heap.size) (hne : fb ≠ g)
    (c0 : w1.cell? ⟨fb, 0, none⟩ = some (.string (M.ty i))) (c1 : w1.cell? ⟨fb, 1, none⟩ = some (.string (M.nm i))) (c2 : w1.cell? ⟨fb, 2, none⟩ = some (.string (M.sc i))) {v : Value} (c3 : w1.cell? ⟨fb, 3, none⟩ = some v) (c4 : w1.cell? ⟨fb, 4, none⟩ = some (.string (M.en i))) (fr : w1.frozen? ⟨fb, 3, none⟩ = false)
    (hown : w1.ownsRow B 34 4 (.slice (some ⟨g, 0, none⟩) 1 c) 1 (cellsOf (a.at (M.ln i)))) :
    AtRound M n k0 B bm X a ls0 (i + 1) (w1.setCell ⟨fb, 3, none⟩ (.slice (some ⟨g, 0, none⟩) 1 c)) := by
  have hle := rep_le M.key i
  have hmx : max k0 i = i := by omega
  have hrr : rep M.key i = i := by omega
  rw [hmx] at hS hA
  have S1 := hS.fresh hrr hG (a.at (M.ln i)) hmap hfb hfb1 hgw hlt hne c0 c1 c2 c3 c4 fr hown (ls' := fun r => ls0 r ++ hits M.key M.ln a r (i + 1))
    (by show _ ++ _ = _; rw [hl0 i (by omega), hits_yes _ _ _ _ _ rfl, hits_none _ _ _ _ hrr i (Nat.le_refl _)]; rfl)
    (fun x hx hrx => by
      show _ ++ _ = _ ++ _
      rw [hits_no]
      intro e
      have := rep_of_key M.key e
      omega)
  refine ⟨_, _, _, by rw [show max k0 (i + 1) = i + 1 by omega]; exact S1, ?_⟩
  intro j hj hrj
  rw [show max k0 (i + 1) = i + 1 by omega] at hj
  by_cases e : j = i
  · simp only [if_pos e]; omega
  · simp only [if_neg e]; exact hA j (by omega) hrj

/-- What add leaves. -/
def AddPost (M : Ms) (n B bm : Nat) (a : Plain.Loc) (ls0 : Nat → List Plain.Loc) (w : World) (e : Ending) (w' : World) : Prop :=
  e = .returned (.tuple #[]) ∧ Holds M n n B bm w' (fun r => ls0 r ++ hits M.key M.ln a r n) ∧ Kept B bm w w'

set_option maxHeartbeats 4000000 in
theorem add_any (M : Ms) (n k0 B bm sb gm gp : Nat) (p : Nat → Nat) (so co pa : ByteArray) (ln : Int) (ls0 : Nat → List Plain.Loc) (w : World) (hn : (n : Int) ≤ 4096) (hs : M.sized n) (hk0 : k0 = 0 ∨ k0 = n)
    (hH : Holds M n k0 B bm w ls0) (hl0 : ∀ r, k0 ≤ r → ls0 r = []) (hl1 : ∀ r, (ls0 r).length ≤ n) (hR : Reads M w sb bm gm gp n p) (hsb : sb < B ∧ sb ≠ bm) (hgm : gm < B ∧ gm ≠ bm) (hgp : gp < B ∧ gp ≠ bm) :
    Calls Try.prog 16 #[.pointer (some ⟨sb, 0, none⟩), .slice (some ⟨gm, 0, none⟩) n n, .agg #[.string so, .string co, .string pa, .int .i64 ln]] w (AddPost M n B bm ⟨so, co, pa, ln⟩ ls0 w) := by
  obtain ⟨i34, hi, hz0, hz1, hz2⟩ := info_parts (show (Try.prog.info? 34).map (fun i => (i.zero, i.size, i.bytes)) = some (some (.agg #[.string ByteArray.empty, .string ByteArray.empty, .string ByteArray.empty, .int .i64 0]), 4, 56) by kernel_rfl)
  have Hs := hide hs
  have HH := hide hH
  have Hl0 := hide hl0
  have Hl1 := hide hl1
  have HR := hide hR
  have hBw : B ≤ w.heap.size := by obtain ⟨_, _, _, s⟩ := hH; exact s.hB
  have Hsb := hide hsb
  have Hgm := hide hgm
  have Hgp := hide hgp
  have Hi := hide (And.intro hi (And.intro hz0 (And.intro hz1 hz2)))
  clear hs hH hl0 hl1 hR hsb hgm hgp hi hz0 hz1 hz2
  go_enter Try.func16, Try.ntmps16
  go_wp2_with fail
  go_loopw [13] (fun u wr => ∃ i : Nat, i ≤ n ∧ u = .int .i64 i ∧ AtRound M n k0 B bm w.heap.size ⟨so, co, pa, ln⟩ ls0 i wr ∧ Kept B bm w wr ∧ w.heap.size < wr.heap.size ∧ wr.heap[w.heap.size]? = some (.cells #[.string so, .string co, .string pa, .int .i64 ln] 34)) (fun u _ => n - (intOf u).toNat)
  case atStart =>
    obtain ⟨blk, row, cap, hSc⟩ := HH.out
    have G0 := World.grownBy_alloc w (.cells #[.string so, .string co, .string pa, .int .i64 ln] 34) none
    refine ⟨0, Nat.zero_le _, rfl, ⟨blk, row, cap, by rw [show max k0 0 = k0 by omega]; exact (hSc.still G0).congr (fun r _ _ => List.append_nil _), ?_⟩, (Kept.refl _ _ _).grown G0 hBw (fun k e => by cases e), by simp, heap_new w _⟩
    intro j hj hrj
    rw [show max k0 0 = k0 by omega] at hj
    have f1 := (hSc.fnd j hj hrj).hg
    have f2 := (hSc.fnd j hj hrj).hbs
    omega
  case round =>
    obtain ⟨i, hin, rfl, hA, hK, hZ, hL⟩ := hrel
    have HA := hide hA
    have HK := hide hK
    have HL := hide hL
    clear hA hK hL
    by_cases hlt : i < n
    · have R := HR.out.kept HK.out Hsb.out Hgm.out Hgp.out
      have s1 := R.s1
      have m0 := R.m0 i hlt
      have m1 := R.m1 i hlt
      have m2 := R.m2 i hlt
      have p0 := R.p0 i hlt
      have p1 := R.p1 i hlt
      have p3 := R.p3 i hlt
      have hgmw : gm < wr.heap.size := Nat.lt_of_lt_of_le Hgm.out.1 (by omega)
      have hgpw : gp < wr.heap.size := Nat.lt_of_lt_of_le Hgp.out.1 (by omega)
      have hsbw : sb < wr.heap.size := Nat.lt_of_lt_of_le Hsb.out.1 (by omega)
      clear R
      go_wp2_with fail
      obtain ⟨wm, hwm⟩ : ∃ x, x = wr.alloc (.cells #[.pointer (some ⟨gp, p i * 5, none⟩), .string (M.sc i), .int .i64 (M.ln i)] 56) := ⟨_, rfl⟩
      rw [← hwm]
      have G1 : wr.grownBy wm none := by rw [hwm]; exact World.grownBy_alloc _ _ _
      have z1 : wm.heap.size = wr.heap.size + 1 := by rw [hwm]; simp
      have v0 : wm.cell? ⟨wr.heap.size, 0, none⟩ = some (.pointer (some ⟨gp, p i * 5, none⟩)) := by rw [hwm]; simp
      have v1 : wm.cell? ⟨wr.heap.size, 1, none⟩ = some (.string (M.sc i)) := by rw [hwm]; simp
      have v2 : wm.cell? ⟨wr.heap.size, 2, none⟩ = some (.int .i64 (M.ln i)) := by rw [hwm]; simp
      have s1 := G1.cell s1 (by simp)
      have p0 := G1.cell p0 (by simp)
      have p1 := G1.cell p1 (by simp)
      have p3 := G1.cell p3 (by simp)
      clear hwm m0 m1 m2
      obtain ⟨mv, hmv⟩ : ∃ x, x = wr.heap.size := ⟨_, rfl⟩
      rw [← hmv] at v0 v1 v2 z1 hgmw hgpw hsbw
      rw [← hmv]
      have HG1 := hide G1
      have Hmv := hide hmv
      have Z1 := hide z1
      have hmv1 : mv < wm.heap.size := by omega
      have hgp1 : gp < wm.heap.size := by omega
      have hsb1 : sb < wm.heap.size := by omega
      clear G1 hmv z1 hgmw hgpw hsbw
      go_region
      obtain ⟨wk, hwk⟩ : ∃ x, x = (wm.alloc (.cells #[.string (M.ty i), .string (M.sc i)] 65)).drew := ⟨_, rfl⟩
      rw [← hwk]
      have G2 : wm.grownBy wk none := by rw [hwk]; exact grown_drawn (World.grownBy_alloc wm _ _)
      have z2 : wk.heap.size = wm.heap.size + 1 := by rw [hwk]; simp
      have k0' : wk.cell? ⟨wm.heap.size, 0, none⟩ = some (.string (M.ty i)) := by rw [hwk]; simp
      have k1' : wk.cell? ⟨wm.heap.size, 1, none⟩ = some (.string (M.sc i)) := by rw [hwk]; simp
      have s1 := G2.cell s1 (by simp)
      have p0 := G2.cell p0 (by simp)
      have p1 := G2.cell p1 (by simp)
      have p3 := G2.cell p3 (by simp)
      have v0 := G2.cell v0 (by simp)
      have v1 := G2.cell v1 (by simp)
      have v2 := G2.cell v2 (by simp)
      clear hwk
      obtain ⟨kv, hkv⟩ : ∃ x, x = wm.heap.size := ⟨_, rfl⟩
      rw [← hkv] at k0' k1' z2 hmv1 hgp1 hsb1
      rw [← hkv]
      have HG := hide (HG1.out.trans G2)
      have Hkv := hide hkv
      have Z2 := hide z2
      have hkv2 : kv < wk.heap.size := by omega
      have hmv2 : mv < wk.heap.size := by omega
      have hgp2 : gp < wk.heap.size := by omega
      have hsb2 : sb < wk.heap.size := by omega
      have hmk : ¬ mv = kv := by omega
      have hkm : ¬ kv = mv := by omega
      clear HG1 G2 hkv z2 hmv1 hgp1 hsb1
      obtain ⟨blk, row, cap, hSc, hAv⟩ := HA.out
      have HS := hide (hSc.still HG.out)
      have HAv := hide hAv
      clear hSc hAv
      have HLk := (HG.out.block w.heap.size hZ (by simp)).trans HL.out
      have l0 : wk.cell? ⟨w.heap.size, 0, none⟩ = some (.string so) := cell_of_row wk _ 0 _ _ _ HLk
      have l1 : wk.cell? ⟨w.heap.size, 1, none⟩ = some (.string co) := cell_of_row wk _ 1 _ _ _ HLk
      have l2 : wk.cell? ⟨w.heap.size, 2, none⟩ = some (.string pa) := cell_of_row wk _ 2 _ _ _ HLk
      have l3 : wk.cell? ⟨w.heap.size, 3, none⟩ = some (.int .i64 ln) := cell_of_row wk _ 3 _ _ _ HLk
      have HLk := hide HLk
      by_cases hf : rep M.key i < max k0 i
      · have L := FMap.look (w := wk.drew) HS.out.map Hs.out hlt hf
        have F := HS.out.fnd (rep M.key i) hf (rep_rep _ _)
        have c3 := F.c3
        have fr := F.fr
        have hg0 := F.hg
        have hfbB := F.hb
        have hfbs := F.hbs
        have HF := hide F
        have hm : (ls0 (rep M.key i) ++ hits M.key M.ln ⟨so, co, pa, ln⟩ (rep M.key i) i).length ≤ 8192 := by
          rw [List.length_append]
          have := Hl1.out (rep M.key i)
          have := hits_len M.key M.ln ⟨so, co, pa, ln⟩ (rep M.key i) i
          omega
        have Hf := hide hf
        clear F hf
        obtain ⟨r, hr⟩ : ∃ r, r = rep M.key i := ⟨_, rfl⟩
        rw [← hr] at L c3 fr hg0 hfbB hfbs HF Hf hm
        have Hr := hide hr
        clear hr
        obtain ⟨fb, hfb⟩ : ∃ x, x = blk r := ⟨_, rfl⟩
        rw [← hfb] at L c3 fr hfbB hfbs HF
        have Hfb := hide hfb
        clear hfb
        obtain ⟨g0, hg⟩ : ∃ x, x = row r := ⟨_, rfl⟩
        rw [← hg] at c3 hg0 HF
        have Hg := hide hg
        clear hg
        obtain ⟨cp, hcp⟩ : ∃ x, x = cap r := ⟨_, rfl⟩
        rw [← hcp] at c3 HF
        have Hcp := hide hcp
        clear hcp
        obtain ⟨ll, hll⟩ : ∃ x, x = ls0 r ++ hits M.key M.ln ⟨so, co, pa, ln⟩ r i := ⟨_, rfl⟩
        rw [← hll] at c3 HF hm
        have Hll := hide hll
        clear hll
        obtain ⟨m, hml⟩ : ∃ x, x = ll.length := ⟨_, rfl⟩
        rw [← hml] at c3 hm
        have Hml := hide hml
        have Hm := hide hm
        clear hml hm
        go_wp2_with fail
        go_region
        go_wp2_with fail
        clear s1 p0 p1 p3 v0 v1 v2 k0' k1' l0 l1 l2 l3 L
        have hself : fb ≠ g0 := by rw [Hfb.out, Hg.out]; exact HS.out.apart r r Hf.out Hf.out (by rw [Hr.out]; exact rep_rep _ _) (by rw [Hr.out]; exact rep_rep _ _)
        obtain ⟨wl, hwl⟩ : ∃ x, x = (wk.alloc (.cells #[.string so, .string co, .string pa, .int .i64 (M.ln i)] 34)).drew := ⟨_, rfl⟩
        rw [← hwl]
        have G3 : wk.grownBy wl none := by rw [hwl]; exact grown_drawn (World.grownBy_alloc wk _ _)
        have z3 : wl.heap.size = wk.heap.size + 1 := by rw [hwl]; simp
        have d0 : wl.cell? ⟨wk.heap.size, 0, none⟩ = some (.string so) := by rw [hwl]; simp
        have d1 : wl.cell? ⟨wk.heap.size, 1, none⟩ = some (.string co) := by rw [hwl]; simp
        have d2 : wl.cell? ⟨wk.heap.size, 2, none⟩ = some (.string pa) := by rw [hwl]; simp
        have d3 : wl.cell? ⟨wk.heap.size, 3, none⟩ = some (.int .i64 (M.ln i)) := by rw [hwl]; simp
        have c3l := G3.cell c3 (by simp)
        have frl := (G3.frozen_far ⟨fb, 3, none⟩ hfbs (by simp)).trans fr
        have ownl := HF.out.own.kept G3 (.inr (by simp [Value.ownBlock]))
        clear hwl c3 fr
        obtain ⟨dv, hdv⟩ : ∃ x, x = wk.heap.size := ⟨_, rfl⟩
        rw [← hdv] at d0 d1 d2 d3 z3 hfbs hg0 hkv2 hmv2 hgp2 hsb2
        rw [← hdv]
        have Hdv := hide hdv
        have Z3 := hide z3
        have HG3 := hide G3
        have hdl : dv < wl.heap.size := by omega
        have hfl : fb < wl.heap.size := by omega
        have OWN : Hid ((wl.alloc (.cells #[.string so, .string co, .string pa, .int .i64 (M.ln i)] 34)).drew.ownsRow B 34 4 (.slice (some ⟨g0, 0, none⟩) m cp) m (cells ll)) := by
          rw [← Hml.out] at ownl
          exact (ownl.alloc _).drew
        have NEWS : Hid (∀ j u, (cellsOf ⟨so, co, pa, M.ln i⟩)[j]? = some u → (wl.alloc (.cells #[.string so, .string co, .string pa, .int .i64 (M.ln i)] 34)).drew.cell? ((⟨wl.heap.size, 0, none⟩ : Addr).add j) = some u) :=
          World.news_of_block (cs := #[.string so, .string co, .string pa, .int .i64 (M.ln i)]) (t := 34) (fr := (0, 0)) (heap_new wl _)
        have ONE : Hid (∀ u ∈ cellsOf ⟨so, co, pa, M.ln i⟩, u.oneCell' = true) := by
          intro u hu
          simp [cellsOf] at hu
          rcases hu with rfl | rfl | rfl | rfl <;> rfl
        have C3 : Hid ((wl.alloc (.cells #[.string so, .string co, .string pa, .int .i64 (M.ln i)] 34)).drew.cell? ⟨fb, 3, none⟩ = some (.slice (some ⟨g0, 0, none⟩) m cp)) := (grown_drawn (World.grownBy_alloc wl _ none)).cell c3l (by simp)
        have FR : Hid ((wl.alloc (.cells #[.string so, .string co, .string pa, .int .i64 (M.ln i)] 34)).drew.frozen? ⟨fb, 3, none⟩ = false) := ((grown_drawn (World.grownBy_alloc wl _ none)).frozen_far ⟨fb, 3, none⟩ hfl (by simp)).trans frl
        have HFL := hide hfl
        have HSELF := hide hself
        have B1 : Hid (m + 1 ≤ maxLen) := by have := Hm.out; show m + 1 ≤ maxLen; unfold maxLen; omega
        have B2 : Hid ((m + 1) * 56 ≤ 140737488355328) := by have := Hm.out; show _ ≤ _; omega
        have B3 : Hid (B ≤ (wl.alloc (.cells #[.string so, .string co, .string pa, .int .i64 (M.ln i)] 34)).drew.heap.size) := by have := HG3.out.size; show B ≤ _; simp; omega
        clear ownl z3 hdv G3 hself
        go_region_law (refine step_append_lies _ rfl (.tmp 66) (.tmp 68) 39 rfl B 34 i34 _ 4 56 Try.underlying39 Hi.out.1 Hi.out.2.1 Hi.out.2.2.1 Hi.out.2.2.2 rfl (by decide) (.slice (some ⟨g0, 0, none⟩) m cp) m (cells ll) (by simp [Act.eval, Act.put]) OWN.out ⟨wl.heap.size, 0, none⟩ 1 1 (cellsOf ⟨so, co, pa, M.ln i⟩) (by simp [Act.eval, Act.put]) rfl NEWS.out ONE.out (by decide) B1.out B2.out B3.out (wl.heap.size + 1) (by simp) ?_; intro g cap' w1 hown hgrow hat hlt1; have c3w := hgrow.cell C3.out (fun e => HSELF.out (Option.some.inj e)); have frw := (hgrow.frozen_far ⟨fb, 3, none⟩ (by simp; have := HFL.out; omega) (fun e => HSELF.out (Option.some.inj e))).trans FR.out)
        all_goals
          clear d0 d1 d2 d3 c3l frl c3w frw
          have G5 := HG3.out.trans (grown_drawn (World.grownBy_alloc wl (.cells #[.string so, .string co, .string pa, .int .i64 (M.ln i)] 34) none))
          have hat' : row (rep M.key i) = g ∨ g = (wl.alloc (.cells #[.string so, .string co, .string pa, .int .i64 (M.ln i)] 34)).drew.heap.size := by
            rcases hat with e | e
            · left; rw [← Hr.out, ← Hg.out]; exact Option.some.inj e
            · right; rw [e]; simp
          have er := Hr.out
          have el := Hll.out
          have em := Hml.out
          have eb := Hfb.out
          have eg := Hg.out
          have Z : wr.heap.size ≤ wk.heap.size := HG.out.size
          have NX := HAv.out r Hf.out (by rw [er]; exact rep_rep _ _)
          have KP : Kept B bm w (w1.setCell ⟨fb, 3, none⟩ (.slice (some ⟨g, 0, none⟩) (m + 1) cap')) :=
            (((HK.out.grown HG.out (by omega) (fun k e => by cases e)).grown G5 (by omega) (fun k e => by cases e)).grown hgrow B3.out (fun k e => by right; have := Option.some.inj e; simp only at this; omega)).setCell (p := ⟨fb, 3, none⟩) hfbB _
          have LV : (w1.setCell ⟨fb, 3, none⟩ (.slice (some ⟨g, 0, none⟩) (m + 1) cap')).heap[w.heap.size]? = some (.cells #[.string so, .string co, .string pa, .int .i64 ln] 34) := by
            rw [Below.heap_setCell _ _ _ _ (by show w.heap.size ≠ fb; rw [eb]; exact fun e => NX.1 e.symm)]
            rw [hgrow.block w.heap.size (by have := G5.size; omega) (by show some w.heap.size ≠ some g0; rw [eg]; exact fun e => NX.2 (Option.some.inj e).symm)]
            rw [G5.block w.heap.size (by omega) (by simp)]
            exact HLk.out
          have AR : AtRound M n k0 B bm w.heap.size ⟨so, co, pa, ln⟩ ls0 (i + 1) (w1.setCell ⟨fb, 3, none⟩ (.slice (some ⟨g, 0, none⟩) (m + 1) cap')) := by
            rw [em, el] at hown ⊢
            rw [eb]
            rw [er] at hown ⊢
            refine round_found HS.out HAv.out (by rw [← er]; exact Hf.out) (by omega) G5 hown ?_ hat' hlt1
            rw [← er, ← eg]
            exact hgrow
          have SZ : w.heap.size < (w1.setCell ⟨fb, 3, none⟩ (.slice (some ⟨g, 0, none⟩) (m + 1) cap')).heap.size := by
            have := hgrow.size
            have := G5.size
            simp
            omega
          have HKP := hide KP
          have HLV := hide LV
          have HAR := hide AR
          clear KP LV AR hgrow hown G5 hat' NX er el em eb eg
          go_wp2_with fail
          exact ⟨⟨i + 1, by omega, by go_num, HAR.out, HKP.out, SZ, HLV.out⟩, by simp [intOf]; omega⟩
      · have hle := rep_le M.key i
        have hmx : max k0 i = i := by omega
        have hrr : rep M.key i = i := by omega
        have L := FMap.look_not (w := wk.drew) HS.out.map Hs.out hlt (by omega)
        have Hf := hide hf
        have HMX := hide hmx
        have HRR := hide hrr
        have hk0i : k0 ≤ i := by omega
        clear hf hle hmx hrr
        go_wp2_with fail
        go_region
        go_wp2_with fail
        clear L
        go_region_held3 (fun w' => w'.cell? ⟨mv, 0, none⟩ = some (.pointer (some ⟨gp, p i * 5, none⟩)) ∧ w'.cell? ⟨mv, 1, none⟩ = some (.string (M.sc i)) ∧ w'.cell? ⟨gp, p i * 5, none⟩ = some (.string (M.ty i)) ∧ w'.cell? ⟨gp, p i * 5 + 1, none⟩ = some (.string (M.nm i)) ∧ w'.cell? ⟨gp, p i * 5 + 3, none⟩ = some (.string (M.en i))) (go_keep) (fail)
        obtain ⟨wf, hwf⟩ : ∃ x, x = (wk.alloc (.cells #[.string (M.ty i), .string (M.nm i), .string (M.sc i), .slice none 0 0, .string (M.en i)] 62)).drew.drew := ⟨_, rfl⟩
        rw [← hwf]
        have hBk : B ≤ wk.heap.size := HS.out.hB
        have G3 : wk.grownBy wf none := by rw [hwf]; exact grown_drawn (grown_drawn (World.grownBy_alloc wk _ _))
        have z3 : wf.heap.size = wk.heap.size + 1 := by rw [hwf]; simp
        have f0 : wf.cell? ⟨wk.heap.size, 0, none⟩ = some (.string (M.ty i)) := by rw [hwf]; simp
        have f1 : wf.cell? ⟨wk.heap.size, 1, none⟩ = some (.string (M.nm i)) := by rw [hwf]; simp
        have f2 : wf.cell? ⟨wk.heap.size, 2, none⟩ = some (.string (M.sc i)) := by rw [hwf]; simp
        have f3 : wf.cell? ⟨wk.heap.size, 3, none⟩ = some (.slice none 0 0) := by rw [hwf]; simp
        have f4 : wf.cell? ⟨wk.heap.size, 4, none⟩ = some (.string (M.en i)) := by rw [hwf]; simp
        have ff : wf.frozen? ⟨wk.heap.size, 3, none⟩ = false := by rw [hwf]; simp
        have s1 := G3.cell s1 (by simp)
        have k0' := G3.cell k0' (by simp)
        have k1' := G3.cell k1' (by simp)
        have v2 := G3.cell v2 (by simp)
        have l0 := G3.cell l0 (by simp)
        have l1 := G3.cell l1 (by simp)
        have l2 := G3.cell l2 (by simp)
        have l3 := G3.cell l3 (by simp)
        obtain ⟨fb, hfb⟩ : ∃ x, x = wk.heap.size := ⟨_, rfl⟩
        rw [← hfb] at f0 f1 f2 f3 f4 ff z3 hkv2 hmv2 hgp2 hsb2 hBk
        rw [← hfb]
        have hmp := HS.out.map
        rw [HMX.out] at hmp
        obtain ⟨wu, hrun, hmap, hgu⟩ := FMap.put (w := wf.drew) (hmp.kept (grown_drawn G3) (by simp)) Hs.out (by omega) hlt HRR.out fb
        have hbm := HS.out.hbm
        have e1 := Hmv.out
        have hmb : mv ≠ bm := by omega
        have hlb : w.heap.size ≠ bm := by omega
        have hfb' : fb ≠ bm := by omega
        have u2 := hgu.cell (a := ⟨mv, 2, none⟩) v2 (fun e => hmb (Option.some.inj e))
        have n0 := hgu.cell (a := ⟨w.heap.size, 0, none⟩) l0 (fun e => hlb (Option.some.inj e))
        have n1 := hgu.cell (a := ⟨w.heap.size, 1, none⟩) l1 (fun e => hlb (Option.some.inj e))
        have n2 := hgu.cell (a := ⟨w.heap.size, 2, none⟩) l2 (fun e => hlb (Option.some.inj e))
        have n3 := hgu.cell (a := ⟨w.heap.size, 3, none⟩) l3 (fun e => hlb (Option.some.inj e))
        have f0 := hgu.cell (a := ⟨fb, 0, none⟩) f0 (fun e => hfb' (Option.some.inj e))
        have f1 := hgu.cell (a := ⟨fb, 1, none⟩) f1 (fun e => hfb' (Option.some.inj e))
        have f2 := hgu.cell (a := ⟨fb, 2, none⟩) f2 (fun e => hfb' (Option.some.inj e))
        have f3 := hgu.cell (a := ⟨fb, 3, none⟩) f3 (fun e => hfb' (Option.some.inj e))
        have f4 := hgu.cell (a := ⟨fb, 4, none⟩) f4 (fun e => hfb' (Option.some.inj e))
        have ff := (hgu.frozen_far ⟨fb, 3, none⟩ (by show fb < wf.heap.size; omega) (fun e => hfb' (Option.some.inj e))).trans ff
        have F0 := hide f0
        have F1 := hide f1
        have F2 := hide f2
        have F4 := hide f4
        have HU : Hid (wk.grownBy wu (some bm)) := ((grown_drawn G3).but (some bm)).trans hgu
        have HMAP := hide hmap
        have Hfb := hide hfb
        have Z3 := hide z3
        have zu : wf.heap.size ≤ wu.heap.size := hgu.size
        have hfu : fb < wu.heap.size := by omega
        have hmu : mv < wu.heap.size := by omega
        have hlu : w.heap.size < wu.heap.size := by have := HG.out.size; omega
        clear hwf G3 hmp hgu hmap hfb z3 e1 f0 f1 f2 f4 zu
        go_wp2_with fail
        go_region
        go_wp2_with fail
        clear s1 p0 p1 p3 v0 v1 v2 k0' k1' l0 l1 l2 l3 u2 n0 n1 n2 n3 hrun
        obtain ⟨wl, hwl⟩ : ∃ x, x = wu.alloc (.cells #[.string so, .string co, .string pa, .int .i64 (M.ln i)] 34) := ⟨_, rfl⟩
        rw [← hwl]
        have G4 : wu.grownBy wl none := by rw [hwl]; exact World.grownBy_alloc wu _ _
        have z4 : wl.heap.size = wu.heap.size + 1 := by rw [hwl]; simp
        have d0 : wl.cell? ⟨wu.heap.size, 0, none⟩ = some (.string so) := by rw [hwl]; simp
        have d1 : wl.cell? ⟨wu.heap.size, 1, none⟩ = some (.string co) := by rw [hwl]; simp
        have d2 : wl.cell? ⟨wu.heap.size, 2, none⟩ = some (.string pa) := by rw [hwl]; simp
        have d3 : wl.cell? ⟨wu.heap.size, 3, none⟩ = some (.int .i64 (M.ln i)) := by rw [hwl]; simp
        have c3l := G4.cell f3 (by simp)
        have frl := (G4.frozen_far ⟨fb, 3, none⟩ hfu (by simp)).trans ff
        clear hwl f3 ff
        obtain ⟨dv, hdv⟩ : ∃ x, x = wu.heap.size := ⟨_, rfl⟩
        rw [← hdv] at d0 d1 d2 d3 z4 hfu hmu hlu
        rw [← hdv]
        have Hdv := hide hdv
        have Z4 := hide z4
        have HG4 := hide G4
        have hdl : dv < wl.heap.size := by omega
        have hfl : fb < wl.heap.size := by omega
        have OWN : Hid ((wl.alloc (.cells #[.string so, .string co, .string pa, .int .i64 (M.ln i)] 34)).drew.ownsRow B 34 4 (.slice none 0 0) 0 []) := ⟨rfl, .inl ⟨rfl, rfl⟩⟩
        have NEWS : Hid (∀ j u, (cellsOf ⟨so, co, pa, M.ln i⟩)[j]? = some u → (wl.alloc (.cells #[.string so, .string co, .string pa, .int .i64 (M.ln i)] 34)).drew.cell? ((⟨wl.heap.size, 0, none⟩ : Addr).add j) = some u) :=
          World.news_of_block (cs := #[.string so, .string co, .string pa, .int .i64 (M.ln i)]) (t := 34) (fr := (0, 0)) (heap_new wl _)
        have ONE : Hid (∀ u ∈ cellsOf ⟨so, co, pa, M.ln i⟩, u.oneCell' = true) := by
          intro u hu
          simp [cellsOf] at hu
          rcases hu with rfl | rfl | rfl | rfl <;> rfl
        have C3 : Hid ((wl.alloc (.cells #[.string so, .string co, .string pa, .int .i64 (M.ln i)] 34)).drew.cell? ⟨fb, 3, none⟩ = some (.slice none 0 0)) := (grown_drawn (World.grownBy_alloc wl _ none)).cell c3l (by simp)
        have FR : Hid ((wl.alloc (.cells #[.string so, .string co, .string pa, .int .i64 (M.ln i)] 34)).drew.frozen? ⟨fb, 3, none⟩ = false) := ((grown_drawn (World.grownBy_alloc wl _ none)).frozen_far ⟨fb, 3, none⟩ hfl (by simp)).trans frl
        have HFL := hide hfl
        have B1 : Hid (0 + 1 ≤ maxLen) := by show 0 + 1 ≤ maxLen; unfold maxLen; omega
        have B2 : Hid ((0 + 1) * 56 ≤ 140737488355328) := by show _ ≤ _; omega
        have B3 : Hid (B ≤ (wl.alloc (.cells #[.string so, .string co, .string pa, .int .i64 (M.ln i)] 34)).drew.heap.size) := by show B ≤ _; simp; omega
        clear z4 hdv G4
        go_region_law (refine step_append_lies _ rfl (.tmp 66) (.tmp 68) 39 rfl B 34 i34 _ 4 56 Try.underlying39 Hi.out.1 Hi.out.2.1 Hi.out.2.2.1 Hi.out.2.2.2 rfl (by decide) (.slice none 0 0) 0 [] (by simp [Act.eval, Act.put]) OWN.out ⟨wl.heap.size, 0, none⟩ 1 1 (cellsOf ⟨so, co, pa, M.ln i⟩) (by simp [Act.eval, Act.put]) rfl NEWS.out ONE.out (by decide) B1.out B2.out B3.out (wl.heap.size + 1) (by simp) ?_; intro g cap' w1 hown hgrow hat hlt1; have c3w := hgrow.cell C3.out (fun e => by cases e); have frw := (hgrow.frozen_far ⟨fb, 3, none⟩ (by simp; have := HFL.out; omega) (fun e => by cases e)).trans FR.out)
        all_goals
          clear d0 d1 d2 d3 c3l frl
          have hat' : g = wl.heap.size + 1 := by
            rcases hat with e | e
            · cases e
            · exact e
          have G5 : wu.grownBy w1 none := (HG4.out.trans (grown_drawn (World.grownBy_alloc wl (.cells #[.string so, .string co, .string pa, .int .i64 (M.ln i)] 34) none))).trans hgrow
          have G6 : wk.grownBy w1 (some bm) := HU.out.trans (G5.but _)
          have zz : wl.heap.size + 1 ≤ w1.heap.size := by have := hgrow.size; simp at this; omega
          have efb := Hfb.out
          have edv := Hdv.out
          have hbm' := HS.out.hbm
          have Z : wr.heap.size ≤ wk.heap.size := HG.out.size
          have hfb1 : fb < w1.heap.size := by omega
          have hgk : wk.heap.size ≤ g := by omega
          have hne : fb ≠ g := by omega
          have hfbB : B ≤ fb := by omega
          have hXk : w.heap.size < wk.heap.size := by omega
          have hX1 : w.heap.size < w1.heap.size := by omega
          have hXf : w.heap.size ≠ fb := by omega
          have KP : Kept B bm w (w1.setCell ⟨fb, 3, none⟩ (.slice (some ⟨g, 0, none⟩) 1 cap')) :=
            ((HK.out.grown HG.out (by omega) (fun k e => by cases e)).grown G6 (by omega) (fun k e => .inl (Option.some.inj e).symm)).setCell (p := ⟨fb, 3, none⟩) hfbB _
          have LV : (w1.setCell ⟨fb, 3, none⟩ (.slice (some ⟨g, 0, none⟩) 1 cap')).heap[w.heap.size]? = some (.cells #[.string so, .string co, .string pa, .int .i64 ln] 34) := by
            rw [Below.heap_setCell _ _ _ _ hXf]
            rw [G6.block w.heap.size hXk (fun e => by have := Option.some.inj e; omega)]
            exact HLk.out
          have AR : AtRound M n k0 B bm w.heap.size ⟨so, co, pa, ln⟩ ls0 (i + 1) (w1.setCell ⟨fb, 3, none⟩ (.slice (some ⟨g, 0, none⟩) 1 cap')) :=
            round_new HS.out HAv.out Hf.out Hl0.out hXk G6 (HMAP.out.kept G5 (by simp)) (by omega) hfb1 hgk hlt1 hne (G5.cell F0.out (by simp)) (G5.cell F1.out (by simp)) (G5.cell F2.out (by simp)) c3w (G5.cell F4.out (by simp)) frw (by have h := hown; simp only [Nat.zero_add, List.nil_append] at h; exact h)
          have SZ : w.heap.size < (w1.setCell ⟨fb, 3, none⟩ (.slice (some ⟨g, 0, none⟩) 1 cap')).heap.size := by
            simp
            omega
          have HKP := hide KP
          have HLV := hide LV
          have HAR := hide AR
          clear KP LV AR hgrow hown G5 G6 hat' c3w frw efb edv
          go_wp2_with fail
          exact ⟨⟨i + 1, by omega, by go_num, HAR.out, HKP.out, SZ, HLV.out⟩, by simp [intOf]; omega⟩
    · obtain rfl : i = n := by omega
      go_wp2_with fail
      obtain ⟨blk, row, cap, hSc, _⟩ := HA.out
      rw [show max k0 i = i by omega] at hSc
      exact bodyPost_ret (v := .tuple #[]) (by simp [results, Try.results16, go_sem]) rfl ⟨rfl, ⟨blk, row, cap, hSc⟩, HK.out⟩

end Go.Proofs.Qxb6612310a

import Derived.Test.Qxb6612310aAdd
import Derived.Test.Qxb6612310aAre
namespace Go.Proofs.Qxb6612310a
open Go.RowKit Plain
set_option linter.unusedVariables false
set_option linter.unusedSimpArgs false

theorem below_grownBy {w w' : World} (h : Below w.heap.size w w') : w.grownBy w' none := ⟨h.os, h.tape, h.output, h.size, fun k hk _ => h.block k hk⟩
theorem grownBy_below {w w' : World} (h : w.grownBy w' none) : Below w.heap.size w w' := ⟨h.os, h.tape, h.output, h.size, fun k hk => h.block k hk (by simp)⟩

/-- 'zzMatches' of no match. -/
theorem matches_zero {B : Nat} (gp np : Nat) (a : Option Addr) (cap : Nat) (w : World) :
    Calls Try.prog 13 #[.slice (some ⟨gp, 0, none⟩) np np, .slice a 0 cap] w fun e w' => e = .returned (.slice (some ⟨w.heap.size, 0, none⟩) 0 0) ∧ Below w.heap.size w w' ∧ w.heap.size < w'.heap.size := by
  obtain ⟨i0, hi, hz0, hz1, hz2⟩ := info_parts info56
  go_enter Try.func13, Try.ntmps13
  go_wp2_with (at_make; refine wpList_make_full _ rfl _ _ 36 rfl w.heap.size 56 i0 (.agg #[.pointer none, .string ByteArray.empty, .int .i64 0]) 3 Try.underlying36 hi hz0 hz1 _ _ _ _ 0 rfl rfl rfl rfl (by rw [hz2]; omega) (by unfold maxLen; omega) (Nat.le_refl _) ?_; intro w1 hown hgrow)
  have HB1 : Hid (Below w.heap.size w w1) := (Below.refl _ _).grown hgrow (Nat.le_refl _) (fun k e => by cases e)
  have HZ1 : Hid (w.heap.size < w1.heap.size) := (hown.lt _ rfl).2
  clear hown hgrow hi hz0 hz1 hz2
  go_loop [6] (fun u => u = .int .i64 0) (fun _ => 0)
  case atStart => rfl
  case round =>
    obtain rfl := hrel
    go_wp2_with fail
    go_ret
    exact ⟨rfl, HB1.out, HZ1.out⟩

/-- 'zzMatches', with the size. -/
theorem matches_full {B : Nat} (gp np : Nat) (a : Option Addr) (n cap : Nat) (p : Nat → Nat) (S : Nat → ByteArray) (L : Nat → Int) (w : World) (hn : (n : Int) ≤ 4096) (hnp : (np : Int) ≤ 65536) (hp : ∀ i, i < n → p i < np) (hB : B ≤ w.heap.size) (hM : MsAt B w a n (fun i => (p i : Int)) S L) :
    Calls Try.prog 13 #[.slice (some ⟨gp, 0, none⟩) np np, .slice a n cap] w fun e w' => e = .returned (.slice (some ⟨w.heap.size, 0, none⟩) n n) ∧ MatRow w' w.heap.size gp n n p S L ∧ w.grownBy w' none ∧ w.heap.size < w'.heap.size := by
  rcases Nat.eq_zero_or_pos n with h0 | h0
  · subst h0
    refine (matches_zero (B := B) gp np a cap w).mono ?_
    rintro e w' ⟨rfl, hb, hz⟩
    exact ⟨rfl, fun i hi => absurd hi (Nat.not_lt_zero _), below_grownBy hb, hz⟩
  · refine (matches_any gp np a n cap p S L w hn hnp hp hB hM).mono ?_
    rintro e w' ⟨rfl, hm, hb⟩
    obtain ⟨v0, v1, v2, m, _⟩ := hm 0 h0
    exact ⟨rfl, hm, below_grownBy hb, cell_lt m.c0⟩

/-- 'ZZAdd'. -/
theorem zadd_any (M : Ms) (n k0 B bm sb gm gp : Nat) (p : Nat → Nat) (so co pa : ByteArray) (ln : Int) (ls0 : Nat → List Plain.Loc) (w : World) (hn : (n : Int) ≤ 4096) (hs : M.sized n) (hk0 : k0 = 0 ∨ k0 = n)
    (hH : Holds M n k0 B bm w ls0) (hl0 : ∀ r, k0 ≤ r → ls0 r = []) (hl1 : ∀ r, (ls0 r).length ≤ n) (hR : Reads M w sb bm gm gp n p) (hsb : sb < B ∧ sb ≠ bm) (hgm : gm < B ∧ gm ≠ bm) (hgp : gp < B ∧ gp ≠ bm) :
    Calls Try.prog 12 #[.pointer (some ⟨sb, 0, none⟩), .slice (some ⟨gm, 0, none⟩) n n, .agg #[.string so, .string co, .string pa, .int .i64 ln]] w (AddPost M n B bm ⟨so, co, pa, ln⟩ ls0 w) := by
  have G0 := World.grownBy_alloc w (.cells #[.string so, .string co, .string pa, .int .i64 ln] 34) none
  obtain ⟨blk, row, cap, hSc⟩ := hH
  have hBw := hSc.hB
  have K0 := (Kept.refl B bm w).grown G0 hBw (fun k e => by cases e)
  have HC := hide (add_any M n k0 B bm sb gm gp p so co pa ln ls0 _ hn hs hk0 ⟨blk, row, cap, hSc.still G0⟩ hl0 hl1 (hR.kept K0 hsb hgm hgp) hsb hgm hgp)
  have HK0 := hide K0
  clear hs hk0 hl0 hl1 hR hsb hgm hgp hSc hBw G0 K0
  go_enter Try.func12, Try.ntmps12
  go_wp2_with fail
  refine HC.out.mono ?_
  rintro e w' ⟨rfl, h2, h3⟩
  have H2 := hide h2
  have H3 := hide (HK0.out.trans h3)
  clear h2 h3
  go_wp2_with fail
  exact bodyPost_ret (v := .tuple #[]) (by simp [results, Try.results12, go_sem]) rfl ⟨rfl, H2.out, H3.out⟩

set_option maxRecDepth 100000 in
/-- 'zzFindingsAre' where there is no match. -/
theorem are_nil (M : Ms) (ns cs cm C : Nat) (a a' v : Option Addr) (B bm sb : Nat) (blk row cap : Nat → Nat) (ls : Nat → List Plain.Loc) (w : World) (hS : Sc M 0 0 B bm w blk row cap ls) (s1 : w.cell? ⟨sb, 1, none⟩ = some (.map (some bm))) :
    Calls Try.prog 14 #[.pointer (some ⟨sb, 0, none⟩), .slice a ns cs, .slice a' 0 cm, .slice v C C] w fun e w' => e = .returned (.bool true) ∧ w.grownBy w' none := by
  have HF := hide (foundLen_any M 0 0 bm sb blk w hS.map s1)
  clear hS s1
  go_enter Try.func14, Try.ntmps14
  go_wp2_with fail
  go_loopw [9, 10] (fun d u wr => u = .int .i64 0 ∧ d = .int .i64 0 ∧ wr = w) (fun _ u _ => 0)
  case atStart => exact ⟨rfl, rfl, rfl⟩
  case round =>
    obtain ⟨rfl, rfl, rfl⟩ := hrel
    go_wp2_with fail
    refine HF.out.mono ?_
    rintro e1 w1 ⟨rfl, rfl⟩
    go_wp2_with fail
    go_ret
    exact ⟨rfl, World.grownBy.refl _ _⟩

theorem MsAt.congr {B : Nat} {w : World} {a : Option Addr} {n : Nat} {P P' : Nat → Int} {S : Nat → ByteArray} {L : Nat → Int} (h : MsAt B w a n P S L) (he : ∀ i, i < n → P i = P' i) : MsAt B w a n P' S L := by
  obtain ⟨h1, h2⟩ := h
  refine ⟨?_, h2⟩
  rcases h1 with h1 | ⟨b, off, rfl, h3, h4⟩
  · exact .inl h1
  · exact .inr ⟨b, off, rfl, h3, fun i hi => by rw [← he i hi]; exact h4 i hi⟩

/-- What the matches are, out of the arguments. -/
def msOf (T N E : Nat → ByteArray) (p : Nat → Nat) (S : Nat → ByteArray) (L : Nat → Int) : Ms := ⟨fun i => T (p i), fun i => N (p i), fun i => E (p i), S, L⟩

theorem msOf_sized {B ns n : Nat} {w : World} {a a' : Option Addr} {T N E S : Nat → ByteArray} {p : Nat → Nat} {P L : Nat → Int} (hS : SpecsAt B w a ns T N E) (hM : MsAt B w a' n P S L) (hp : ∀ i, i < n → p i < ns) : (msOf T N E p S L).sized n := fun i hi => ⟨(hS.2 (p i) (hp i hi)).1, hM.2 i hi⟩

/-- 'zzFindingsAre', out of the arguments. -/
theorem are_any {D : Nat} (T N E S : Nat → ByteArray) (p : Nat → Nat) (L : Nat → Int) (n ns cs cm C ga B bm sb : Nat) (a a' : Option Addr) (ats : Nat → Plain.Loc) (w : World) (hn : (n : Int) ≤ 4096) (hns : (ns : Int) ≤ 65536) (hC : (C : Int) ≤ 2)
    (hSp : SpecsAt D w a ns T N E) (hM : MsAt D w a' n (fun i => (p i : Int)) S L) (hp : ∀ i, i < n → p i < ns)
    (hH : Holds (msOf T N E p S L) n n B bm w (fun r => all (msOf T N E p S L).key L ats n r C)) (hA : Ats w ga C ats) (s1 : w.cell? ⟨sb, 1, none⟩ = some (.map (some bm))) :
    Calls Try.prog 14 #[.pointer (some ⟨sb, 0, none⟩), .slice a ns cs, .slice a' n cm, .slice (some ⟨ga, 0, none⟩) C C] w fun e w' => e = .returned (.bool true) ∧ w.grownBy w' none := by
  obtain ⟨blk, row, cap, hSc⟩ := hH
  rcases Nat.eq_zero_or_pos n with h0 | h0
  · subst h0
    exact are_nil _ ns cs cm C a a' _ B bm sb blk row cap _ w hSc s1
  · have hs := msOf_sized hSp hM hp
    obtain ⟨h1 | ⟨b', o', rfl, _, hc'⟩, _⟩ := hM
    · omega
    · obtain ⟨h1 | ⟨b, o, rfl, _, hc⟩, _⟩ := hSp
      · have := hp 0 h0; omega
      · exact are_some _ n ns cs cm b o b' o' C ga B bm sb p ats blk row cap w hn hns hC hs hSc hA s1
          ⟨fun i hi => (hc _ (hp i hi)).1, fun i hi => (hc _ (hp i hi)).2.1, fun i hi => (hc _ (hp i hi)).2.2, fun i hi => (hc' i hi).1, fun i hi => (hc' i hi).2.1, fun i hi => (hc' i hi).2.2, hp⟩

/-- Ahead of the first 'add'. -/
theorem ready {w1 w2 w3 w4 : World} {g1 ns n : Nat} {T N E S : Nat → ByteArray} {p : Nat → Nat} {L : Nat → Int} {v0 v2 : Value} (h1 : PatRow w1 g1 ns ns T N E) (hg1 : g1 < w1.heap.size) (e2 : w2 = (w1.alloc (.map #[] 0)).alloc (.cells #[v0, .map (some w1.heap.size), v2] 52))
    (g23 : w2.grownBy w3 none) (g34 : w3.grownBy w4 none) (hm : MatRow w4 w3.heap.size g1 n n p S L) (hp : ∀ i, i < n → p i < ns) :
    Reads (msOf T N E p S L) w4 (w1.heap.size + 1) w1.heap.size w3.heap.size g1 n p ∧ Holds (msOf T N E p S L) n 0 w4.heap.size w1.heap.size w4 (fun _ => []) := by
  have g12 : w1.grownBy w2 none := by rw [e2]; exact (World.grownBy_alloc _ _ none).trans (World.grownBy_alloc _ _ none)
  have g14 := (g12.trans g23).trans g34
  have s1 : w2.cell? ⟨w1.heap.size + 1, 1, none⟩ = some (.map (some w1.heap.size)) := by
    rw [e2]; simp
  have mp : FMap (msOf T N E p S L) n w2 w1.heap.size 0 (fun _ => 0) := by
    rw [e2]; exact (FMap_made _ n w1 _).kept (World.grownBy_alloc _ _ none) (by simp)
  have hz : w2.heap.size = w1.heap.size + 2 := by rw [e2]; simp
  have z3 := g23.size
  have z4 := g34.size
  refine ⟨⟨(g23.trans g34).cell s1 (by simp), fun i hi => ?_, fun i hi => ?_, fun i hi => ?_, fun i hi => ?_, fun i hi => ?_, fun i hi => ?_⟩, fun _ => 0, fun _ => 0, fun _ => 0, ⟨mp.kept (g23.trans g34) (by simp), by omega, Nat.le_refl _, fun i hi => absurd hi (Nat.not_lt_zero _), fun i j hi => absurd hi (Nat.not_lt_zero _), fun i j hi => absurd hi (Nat.not_lt_zero _), fun i j hi => absurd hi (Nat.not_lt_zero _)⟩⟩
  · obtain ⟨_, _, _, m, he⟩ := hm i hi; rw [m.c0, (he hi).1]
  · obtain ⟨_, _, _, m, he⟩ := hm i hi; rw [m.c1, (he hi).2.1]; rfl
  · obtain ⟨_, _, _, m, he⟩ := hm i hi; rw [m.c2, (he hi).2.2]; rfl
  · obtain ⟨_, _, _, m, he⟩ := h1 (p i) (hp i hi); rw [g14.cell m.c0 (by simp), (he (hp i hi)).1]; rfl
  · obtain ⟨_, _, _, m, he⟩ := h1 (p i) (hp i hi); rw [g14.cell m.c1 (by simp), (he (hp i hi)).2.1]; rfl
  · obtain ⟨_, _, _, m, he⟩ := h1 (p i) (hp i hi); rw [g14.cell m.c3 (by simp), (he (hp i hi)).2.2]; rfl

theorem Holds.still {M : Ms} {n k B bm : Nat} {w w' : World} {ls : Nat → List Plain.Loc} (h : Holds M n k B bm w ls) (hg : w.grownBy w' none) : Holds M n k B bm w' ls := by
  obtain ⟨blk, row, cap, hs⟩ := h
  exact ⟨blk, row, cap, hs.still hg⟩
theorem Holds.congr {M : Ms} {n k B bm : Nat} {w : World} {ls ls' : Nat → List Plain.Loc} (h : Holds M n k B bm w ls) (he : ∀ i, i < k → ls' i = ls i) : Holds M n k B bm w ls' := by
  obtain ⟨blk, row, cap, hs⟩ := h
  exact ⟨blk, row, cap, hs.congr (fun i hi _ => he i hi)⟩

/-- The cells of a row of one place. -/
theorem ats_one (w : World) (a : Plain.Loc) : Ats (w.alloc (.cells #[.string a.so, .string a.co, .string a.pa, .int .i64 a.ln] 34)) w.heap.size 1 (fun _ => a) :=
  ⟨fun c hc => by obtain rfl : c = 0 := by omega
                  simp, fun c hc => by obtain rfl : c = 0 := by omega
                                       simp, fun c hc => by obtain rfl : c = 0 := by omega
                                                            simp, fun c hc => by obtain rfl : c = 0 := by omega
                                                                                 simp⟩

end Go.Proofs.Qxb6612310a

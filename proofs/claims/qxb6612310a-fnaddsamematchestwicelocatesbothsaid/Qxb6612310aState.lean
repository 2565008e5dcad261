/-
  WHAT THE SCANNER HOLDS: the map, and the findings with their places.
-/
import Derived.Test.Qxb6612310aMap
import Derived.Deep.AppendLies
import Derived.Maps.RangeWalk
namespace Go.Proofs.Qxb6612310a
open Go.RowKit Plain
set_option linter.unusedVariables false
set_option linter.unusedSimpArgs false

/-- The frame: below B nothing turns but the map's own block. -/
structure Kept (B bm : Nat) (w w' : World) : Prop where
  os : w'.os = w.os
  tape : w'.tape = w.tape
  output : w'.output = w.output
  size : w.heap.size ≤ w'.heap.size
  block : ∀ k, k < B → k ≠ bm → w'.heap[k]? = w.heap[k]?

theorem Kept.refl (B bm : Nat) (w : World) : Kept B bm w w := ⟨rfl, rfl, rfl, Nat.le_refl _, fun _ _ _ => rfl⟩
theorem Kept.trans {B bm : Nat} {a b c : World} (h : Kept B bm a b) (k : Kept B bm b c) : Kept B bm a c :=
  ⟨k.os.trans h.os, k.tape.trans h.tape, k.output.trans h.output, Nat.le_trans h.size k.size, fun i hi hn => (k.block i hi hn).trans (h.block i hi hn)⟩
theorem Kept.drew {B bm : Nat} {a w : World} (h : Kept B bm a w) : Kept B bm a w.drew := ⟨h.os, h.tape, h.output, h.size, h.block⟩
theorem Kept.setCell {B bm : Nat} {a w : World} (h : Kept B bm a w) {p : Addr} (hp : B ≤ p.block) (u : Value) : Kept B bm a (w.setCell p u) := by
  have b := (Below.refl B w).setCell hp u
  exact ⟨b.os.trans h.os, b.tape.trans h.tape, b.output.trans h.output, Nat.le_trans h.size b.size, fun i hi hn => (b.block i hi).trans (h.block i hi hn)⟩
theorem Kept.grown {B bm : Nat} {a w w' : World} {row : Option Nat} (h : Kept B bm a w) (hg : w.grownBy w' row) (hB : B ≤ w.heap.size) (hr : ∀ k, row = some k → k = bm ∨ B ≤ k) : Kept B bm a w' :=
  ⟨hg.os.trans h.os, hg.tape.trans h.tape, hg.output.trans h.output, Nat.le_trans h.size hg.size, fun i hi hn => (hg.block i (Nat.lt_of_lt_of_le hi hB) (fun e => by rcases hr i e.symm with h | h <;> omega)).trans (h.block i hi hn)⟩
theorem Kept.cell {B bm : Nat} {w w' : World} (h : Kept B bm w w') {p : Addr} (hp : p.block < B) (hn : p.block ≠ bm) : w'.cell? p = w.cell? p := World.cell?_of_block (w := w) (h.block p.block hp hn)
theorem Kept.frozen {B bm : Nat} {w w' : World} (h : Kept B bm w w') {p : Addr} (hp : p.block < B) (hn : p.block ≠ bm) : w'.frozen? p = w.frozen? p := World.frozen?_of_block (w := w) (h.block p.block hp hn)
theorem Kept.below {B bm H : Nat} {w w' : World} (h : Kept B bm w w') (hH : H ≤ bm) (hb : bm < B) : Below H w w' :=
  ⟨h.os, h.tape, h.output, h.size, fun k hk => h.block k (by omega) (by omega)⟩

/-- A place's cells. -/
def cellsOf (l : Plain.Loc) : List Value := [.string l.so, .string l.co, .string l.pa, .int .i64 l.ln]
def cells : List Plain.Loc → List Value
  | [] => []
  | l :: r => cellsOf l ++ cells r
theorem cells_snoc (l : Plain.Loc) : ∀ ls : List Plain.Loc, cells (ls ++ [l]) = cells ls ++ cellsOf l
  | [] => by simp [cells]
  | x :: r => by
    show cellsOf x ++ cells (r ++ [l]) = (cellsOf x ++ cells r) ++ cellsOf l
    rw [cells_snoc l r, List.append_assoc]
theorem cells_len : ∀ ls : List Plain.Loc, (cells ls).length = ls.length * 4
  | [] => rfl
  | x :: r => by
    show (cellsOf x ++ cells r).length = (r.length + 1) * 4
    rw [List.length_append, cells_len r]
    show 4 + _ = _
    omega
theorem cells_at (l : Plain.Loc) (p : List Plain.Loc) (r : List Plain.Loc) (f : Nat) (hf : f < 4) : (cells (p ++ l :: r))[p.length * 4 + f]? = (cellsOf l)[f]? := by
  induction p with
  | nil =>
    show (cellsOf l ++ cells r)[0 * 4 + f]? = _
    rw [List.getElem?_append_left (by show 0 * 4 + f < 4; omega)]
    congr 1
    omega
  | cons x p ih =>
    show (cellsOf x ++ cells (p ++ l :: r))[(p.length + 1) * 4 + f]? = _
    rw [List.getElem?_append_right (by show 4 ≤ _; omega), ← ih]
    congr 1
    show (p.length + 1) * 4 + f - 4 = _
    omega

/-- A finding: block b its own, g its places' row. -/
structure Fnd (M : Ms) (B : Nat) (w : World) (i b g c : Nat) (ls : List Plain.Loc) : Prop where
  c0 : w.cell? ⟨b, 0, none⟩ = some (.string (M.ty i))
  c1 : w.cell? ⟨b, 1, none⟩ = some (.string (M.nm i))
  c2 : w.cell? ⟨b, 2, none⟩ = some (.string (M.sc i))
  c3 : w.cell? ⟨b, 3, none⟩ = some (.slice (some ⟨g, 0, none⟩) ls.length c)
  c4 : w.cell? ⟨b, 4, none⟩ = some (.string (M.en i))
  fr : w.frozen? ⟨b, 3, none⟩ = false
  own : w.ownsRow B 34 4 (.slice (some ⟨g, 0, none⟩) ls.length c) ls.length (cells ls)
  hb : B ≤ b
  hbs : b < w.heap.size

theorem Fnd.hg {M : Ms} {B : Nat} {w : World} {i b g c : Nat} {ls : List Plain.Loc} (h : Fnd M B w i b g c ls) : B ≤ g ∧ g < w.heap.size := h.own.lt g rfl

/-- A finding is kept where neither of its blocks turns. -/
theorem Fnd.kept {M : Ms} {B : Nat} {w w' : World} {i b g c : Nat} {ls : List Plain.Loc} (h : Fnd M B w i b g c ls) {row : Option Nat} (hg : w.grownBy w' row) (h1 : some b ≠ row) (h2 : some g ≠ row) : Fnd M B w' i b g c ls :=
  ⟨hg.cell h.c0 h1, hg.cell h.c1 h1, hg.cell h.c2 h1, hg.cell h.c3 h1, hg.cell h.c4 h1, (hg.frozen_far ⟨b, 3, none⟩ h.hbs h1).trans h.fr, h.own.kept hg (.inr h2), h.hb, Nat.lt_of_lt_of_le h.hbs hg.size⟩
theorem setCell_grown (w : World) (a : Addr) (u : Value) : w.grownBy (w.setCell a u) (some a.block) :=
  let b := (Below.refl 0 w).setCell (Nat.zero_le a.block) u
  ⟨b.os, b.tape, b.output, b.size, fun k _ hk => Below.heap_setCell w a u k (fun e => hk (by rw [e]))⟩

/-- The state: the matches below k booked. -/
structure Sc (M : Ms) (n k B bm : Nat) (w : World) (blk row cap : Nat → Nat) (ls : Nat → List Plain.Loc) : Prop where
  map : FMap M n w bm k blk
  hbm : bm < B
  hB : B ≤ w.heap.size
  fnd : ∀ i, i < k → rep M.key i = i → Fnd M B w i (blk i) (row i) (cap i) (ls i)
  apart : ∀ i j, i < k → j < k → rep M.key i = i → rep M.key j = j → blk i ≠ row j
  blks : ∀ i j, i < k → j < k → rep M.key i = i → rep M.key j = j → i ≠ j → blk i ≠ blk j
  rows : ∀ i j, i < k → j < k → rep M.key i = i → rep M.key j = j → i ≠ j → row i ≠ row j

section
variable {M : Ms} {n k B bm : Nat} {w : World} {blk row cap : Nat → Nat} {ls : Nat → List Plain.Loc}

theorem Sc.still (h : Sc M n k B bm w blk row cap ls) {w' : World} (hg : w.grownBy w' none) : Sc M n k B bm w' blk row cap ls :=
  ⟨h.map.kept hg (by simp), h.hbm, Nat.le_trans h.hB hg.size, fun i hi hr => (h.fnd i hi hr).kept hg (by simp) (by simp), h.apart, h.blks, h.rows⟩

theorem Sc.congr (h : Sc M n k B bm w blk row cap ls) {ls' : Nat → List Plain.Loc} (he : ∀ i, i < k → rep M.key i = i → ls' i = ls i) : Sc M n k B bm w blk row cap ls' :=
  ⟨h.map, h.hbm, h.hB, fun i hi hr => by rw [he i hi hr]; exact h.fnd i hi hr, h.apart, h.blks, h.rows⟩

theorem Sc.skip (h : Sc M n k B bm w blk row cap ls) (hr : rep M.key k ≠ k) : Sc M n (k + 1) B bm w blk row cap ls := by
  have hk : ∀ i, i < k + 1 → rep M.key i = i → i < k := fun i hi hri => by
    rcases Nat.lt_or_ge i k with h | h
    · exact h
    · exact absurd (by rw [show k = i by omega]; exact hri) hr
  exact ⟨h.map.skip hr, h.hbm, h.hB, fun i hi hri => h.fnd i (hk i hi hri) hri, fun i j hi hj hri hrj => h.apart i j (hk i hi hri) (hk j hj hrj) hri hrj,
    fun i j hi hj hri hrj => h.blks i j (hk i hi hri) (hk j hj hrj) hri hrj, fun i j hi hj hri hrj => h.rows i j (hk i hi hri) (hk j hj hrj) hri hrj⟩

/-- A place is appended to the finding r. -/
theorem Sc.append (h : Sc M n k B bm w blk row cap ls) {r : Nat} (hr : r < k) (hrr : rep M.key r = r) {w1 : World} (hg : w.grownBy w1 (some (row r))) {g c : Nat} (l : Plain.Loc)
    (hown : w1.ownsRow B 34 4 (.slice (some ⟨g, 0, none⟩) ((ls r).length + 1) c) ((ls r).length + 1) (cells (ls r) ++ cellsOf l)) (hat : row r = g ∨ g = w.heap.size) (hlt : g < w1.heap.size) {ls' : Nat → List Plain.Loc} (e1 : ls' r = ls r ++ [l]) (e2 : ∀ x, x < k → rep M.key x = x → x ≠ r → ls' x = ls x) :
    Sc M n k B bm (w1.setCell ⟨blk r, 3, none⟩ (.slice (some ⟨g, 0, none⟩) ((ls r).length + 1) c)) blk (fun i => if i = r then g else row i) (fun i => if i = r then c else cap i) ls' := by
  have fr := h.fnd r hr hrr
  have f0 := fr.hg
  have hb := fr.hb
  have hbs := fr.hbs
  have hgB : B ≤ g := by rcases hat with e | e; omega; have := h.hB; omega
  have hbm := h.hbm
  have hS := setCell_grown w1 ⟨blk r, 3, none⟩ (.slice (some ⟨g, 0, none⟩) ((ls r).length + 1) c)
  have hself := h.apart r r hr hr hrr hrr
  have hgne : ∀ i, i < k → rep M.key i = i → blk i ≠ g := fun i hi hri e => by
    rcases hat with e' | e'
    · exact h.apart i r hi hr hri hrr (by omega)
    · have := (h.fnd i hi hri).hbs; omega
  refine ⟨(h.map.kept hg (by simp; omega)).setCell (by show bm ≠ blk r; omega) _, h.hbm, by simp; exact Nat.le_trans h.hB hg.size, fun i hi hri => ?_, fun i j hi hj hri hrj => ?_, h.blks, fun i j hi hj hri hrj hne => ?_⟩
  · by_cases e : i = r
    · subst e
      simp only [if_true, e1]
      have p0 : ∀ o, o ≠ 3 → (⟨blk i, 3, none⟩ : Addr) ≠ ⟨blk i, o, none⟩ := fun o ho e => ho (congrArg Addr.off e).symm
      have q : some (blk i) ≠ some (row i) := fun e => hself (Option.some.inj e)
      have el : (ls i ++ [l]).length = (ls i).length + 1 := by simp
      refine ⟨?_, ?_, ?_, ?_, ?_, ?_, ?_, hb, by simp; exact Nat.lt_of_lt_of_le hbs hg.size⟩
      · rw [World.cell?_setCell_other _ _ _ _ (p0 0 (by omega))]; exact hg.cell fr.c0 q
      · rw [World.cell?_setCell_other _ _ _ _ (p0 1 (by omega))]; exact hg.cell fr.c1 q
      · rw [World.cell?_setCell_other _ _ _ _ (p0 2 (by omega))]; exact hg.cell fr.c2 q
      · rw [el]; exact World.cell?_setCell_same _ _ _ (hg.cell fr.c3 q)
      · rw [World.cell?_setCell_other _ _ _ _ (p0 4 (by omega))]; exact hg.cell fr.c4 q
      · have := (hg.frozen_far ⟨blk i, 3, none⟩ hbs q).trans fr.fr
        simpa using this
      · rw [el, cells_snoc]
        exact hown.kept hS (.inr (fun e => hgne i hi hri (Option.some.inj e).symm))
    · simp only [if_neg e, e2 i hi hri e]
      refine ((h.fnd i hi hri).kept hg ?_ ?_).kept hS ?_ ?_
      · exact fun e' => h.apart i r hi hr hri hrr (Option.some.inj e')
      · exact fun e' => h.rows i r hi hr hri hrr e (Option.some.inj e')
      · exact fun e' => h.blks i r hi hr hri hrr e (Option.some.inj e')
      · exact fun e' => h.apart r i hr hi hrr hri (Option.some.inj e').symm
  · by_cases e : j = r
    · simp only [if_pos e]; exact hgne i hi hri
    · simp only [if_neg e]; exact h.apart i j hi hj hri hrj
  · have hx : ∀ x, x < k → rep M.key x = x → x ≠ r → row x ≠ g := fun x hx hrx hxr e => by
      rcases hat with e' | e'
      · exact h.rows x r hx hr hrx hrr hxr (by omega)
      · have := (h.fnd x hx hrx).hg; omega
    by_cases e : i = r
    · by_cases e' : j = r
      · omega
      · simp only [if_pos e, if_neg e']; exact fun q => hx j hj hrj e' q.symm
    · by_cases e' : j = r
      · simp only [if_neg e, if_pos e']; exact hx i hi hri e
      · simp only [if_neg e, if_neg e']; exact h.rows i j hi hj hri hrj hne

/-- A new finding, with its first place. -/
theorem Sc.fresh (h : Sc M n k B bm w blk row cap ls) (hrr : rep M.key k = k) {w1 : World} (hg : w.grownBy w1 (some bm)) {fb g c : Nat} (l : Plain.Loc)
    (hmap : FMap M n w1 bm (k + 1) (fun i => if i = k then fb else blk i)) (hfb : w.heap.size ≤ fb) (hfb1 : fb < w1.heap.size) (hgw : w.heap.size ≤ g) (hlt : g < w1.heap.size) (hne : fb ≠ g)
    (c0 : w1.cell? ⟨fb, 0, none⟩ = some (.string (M.ty k))) (c1 : w1.cell? ⟨fb, 1, none⟩ = some (.string (M.nm k))) (c2 : w1.cell? ⟨fb, 2, none⟩ = some (.string (M.sc k))) {v : Value} (c3 : w1.cell? ⟨fb, 3, none⟩ = some v) (c4 : w1.cell? ⟨fb, 4, none⟩ = some (.string (M.en k))) (fr : w1.frozen? ⟨fb, 3, none⟩ = false)
    (hown : w1.ownsRow B 34 4 (.slice (some ⟨g, 0, none⟩) 1 c) 1 (cellsOf l)) {ls' : Nat → List Plain.Loc} (e1 : ls' k = [l]) (e2 : ∀ x, x < k → rep M.key x = x → ls' x = ls x) :
    Sc M n (k + 1) B bm (w1.setCell ⟨fb, 3, none⟩ (.slice (some ⟨g, 0, none⟩) 1 c)) (fun i => if i = k then fb else blk i) (fun i => if i = k then g else row i) (fun i => if i = k then c else cap i) ls' := by
  have hB := h.hB
  have hbm := h.hbm
  have hS := setCell_grown w1 ⟨fb, 3, none⟩ (.slice (some ⟨g, 0, none⟩) 1 c)
  have hlt' : ∀ i, i < k + 1 → i ≠ k → i < k := fun i hi hn => by omega
  refine ⟨hmap.setCell (by show bm ≠ fb; omega) _, hbm, by simp; exact Nat.le_trans hB hg.size, fun i hi hri => ?_, fun i j hi hj hri hrj => ?_, fun i j hi hj hri hrj hij => ?_, fun i j hi hj hri hrj hij => ?_⟩
  · by_cases e : i = k
    · subst e
      simp only [if_true, e1]
      have p0 : ∀ o, o ≠ 3 → (⟨fb, 3, none⟩ : Addr) ≠ ⟨fb, o, none⟩ := fun o ho e => ho (congrArg Addr.off e).symm
      refine ⟨?_, ?_, ?_, ?_, ?_, ?_, ?_, by omega, by simp; exact hfb1⟩
      · rw [World.cell?_setCell_other _ _ _ _ (p0 0 (by omega))]; exact c0
      · rw [World.cell?_setCell_other _ _ _ _ (p0 1 (by omega))]; exact c1
      · rw [World.cell?_setCell_other _ _ _ _ (p0 2 (by omega))]; exact c2
      · exact World.cell?_setCell_same _ _ _ c3
      · rw [World.cell?_setCell_other _ _ _ _ (p0 4 (by omega))]; exact c4
      · simpa using fr
      · have : cells [l] = cellsOf l := by simp [cells]
        rw [this]
        exact hown.kept hS (.inr (fun e => hne (Option.some.inj e).symm))
    · have hi' := hlt' i hi e
      have f := h.fnd i hi' hri
      have f1 := f.hg
      have f2 := f.hbs
      have f3 := f.hb
      simp only [if_neg e, e2 i hi' hri]
      refine (f.kept hg ?_ ?_).kept hS ?_ ?_
      · exact fun e' => by have := Option.some.inj e'; omega
      · exact fun e' => by have := Option.some.inj e'; omega
      · exact fun e' => by have := Option.some.inj e'; simp only at this; omega
      · exact fun e' => by have := Option.some.inj e'; simp only at this; omega
  · by_cases e : i = k <;> by_cases e' : j = k
    · simp only [if_pos e, if_pos e']; exact hne
    · have f := (h.fnd j (hlt' j hj e') hrj).hg
      simp only [if_pos e, if_neg e']; omega
    · have f := (h.fnd i (hlt' i hi e) hri).hbs
      simp only [if_neg e, if_pos e']; omega
    · simp only [if_neg e, if_neg e']; exact h.apart i j (hlt' i hi e) (hlt' j hj e') hri hrj
  · by_cases e : i = k <;> by_cases e' : j = k
    · omega
    · have f := (h.fnd j (hlt' j hj e') hrj).hbs
      simp only [if_pos e, if_neg e']; omega
    · have f := (h.fnd i (hlt' i hi e) hri).hbs
      simp only [if_neg e, if_pos e']; omega
    · simp only [if_neg e, if_neg e']; exact h.blks i j (hlt' i hi e) (hlt' j hj e') hri hrj hij
  · by_cases e : i = k <;> by_cases e' : j = k
    · omega
    · have f := (h.fnd j (hlt' j hj e') hrj).hg
      simp only [if_pos e, if_neg e']; omega
    · have f := (h.fnd i (hlt' i hi e) hri).hg
      simp only [if_neg e, if_pos e']; omega
    · simp only [if_neg e, if_neg e']; exact h.rows i j (hlt' i hi e) (hlt' j hj e') hri hrj hij

end

/-- The state, its blocks not named. -/
def Holds (M : Ms) (n k B bm : Nat) (w : World) (ls : Nat → List Plain.Loc) : Prop := ∃ blk row cap, Sc M n k B bm w blk row cap ls

end Go.Proofs.Qxb6612310a

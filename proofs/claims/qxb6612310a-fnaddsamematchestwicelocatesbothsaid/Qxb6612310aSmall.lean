import Derived.Test.Qxb6612310aState
import Derived.BigQuiet
namespace Go.Proofs.Qxb6612310a
open Go.RowKit Plain
set_option linter.unusedVariables false
set_option linter.unusedSimpArgs false

theorem grown_drewN (w : World) (n : Nat) (row : Option Nat) : w.grownBy (w.drewN n) row := ⟨rfl, rfl, rfl, Nat.le_refl _, fun _ _ _ => rfl⟩

/-- The arguments' cells, in a world: match i's pattern is p i. -/
structure Given (M : Ms) (w : World) (b o b' o' ns n : Nat) (p : Nat → Nat) : Prop where
  ty : ∀ i, i < n → w.cell? ⟨b, o + p i * 3, none⟩ = some (.string (M.ty i))
  nm : ∀ i, i < n → w.cell? ⟨b, o + p i * 3 + 1, none⟩ = some (.string (M.nm i))
  en : ∀ i, i < n → w.cell? ⟨b, o + p i * 3 + 2, none⟩ = some (.string (M.en i))
  pt : ∀ i, i < n → w.cell? ⟨b', o' + i * 3, none⟩ = some (.int .i64 (p i))
  sc : ∀ i, i < n → w.cell? ⟨b', o' + i * 3 + 1, none⟩ = some (.string (M.sc i))
  ln : ∀ i, i < n → w.cell? ⟨b', o' + i * 3 + 2, none⟩ = some (.int .i64 (M.ln i))
  lt : ∀ i, i < n → p i < ns

theorem Given.kept {M : Ms} {w w' : World} {b o b' o' ns n : Nat} {p : Nat → Nat} (h : Given M w b o b' o' ns n p) (hg : w.grownBy w' none) : Given M w' b o b' o' ns n p :=
  ⟨fun i hi => hg.cell (h.ty i hi) (by simp), fun i hi => hg.cell (h.nm i hi) (by simp), fun i hi => hg.cell (h.en i hi) (by simp), fun i hi => hg.cell (h.pt i hi) (by simp), fun i hi => hg.cell (h.sc i hi) (by simp), fun i hi => hg.cell (h.ln i hi) (by simp), h.lt⟩

theorem string_key {a b : ByteArray} : a = b ↔ a.data.toList = b.data.toList := ⟨fun h => by rw [h], fun h => ByteArray.ext (Array.ext' h)⟩

theorem bytes_ne {a b : ByteArray} (h : ¬ a = b) : (a.toList == b.toList) = false := by
  rw [beq_eq_false_iff_ne]
  intro e
  rw [ByteArray.toList_eq, ByteArray.toList_eq] at e
  exact h (WideShapes.bytes_inj e)

/-- Whether i and j bear one key. -/
def same (M : Ms) (i j : Nat) : Bool := decide (M.key i = M.key j)

/-- 'zzSameKey'. -/
theorem sameKey_any (M : Ms) (b o b' o' ns n cs cm i j : Nat) (p : Nat → Nat) (w : World) (hn : (n : Int) ≤ 4096) (hns : (ns : Int) ≤ 65536) (G : Given M w b o b' o' ns n p) (hi : i < n) (hj : j < n) :
    Calls Try.prog 18 #[.slice (some ⟨b, o, none⟩) ns cs, .slice (some ⟨b', o', none⟩) n cm, .int .i64 i, .int .i64 j] w fun e w' => e = .returned (.bool (same M i j)) ∧ ∃ d, w' = w.drewN d := by
  have t1 := G.ty i hi
  have t2 := G.ty j hj
  have a1 := G.pt i hi
  have a2 := G.pt j hj
  have x1 := G.sc i hi
  have x2 := G.sc j hj
  have y1 := G.lt i hi
  have y2 := G.lt j hj
  clear G
  by_cases h1 : M.ty i = M.ty j
  · by_cases h2 : M.sc i = M.sc j
    · have e : Hid (same M i j = true) := by show _ = _; simp [same, Ms.key, h1, h2]
      rw [h1] at t1
      rw [h2] at x1
      clear h1 h2
      generalize M.ty j = t at t1 t2
      generalize M.sc j = s at x1 x2
      go_enter Try.func18, Try.ntmps18
      go_wp2_with fail
      go_quiet (fail)
      go_wp2
      go_ret
      exact ⟨by rw [e.out]; rfl, _, rfl⟩
    · have e : Hid (same M i j = false) := by show _ = _; unfold same; rw [decide_eq_false_iff_not]; exact fun h => h2 (Ms.key_inj h).2
      rw [h1] at t1
      clear h1
      generalize M.ty j = t at t1 t2
      generalize M.sc j = s at h2 x2
      generalize M.sc i = s' at h2 x1
      have q : (s'.toList == s.toList) = false := bytes_ne h2
      go_enter Try.func18, Try.ntmps18
      go_wp2_with fail
      go_quiet (fail)
      go_wp2
      go_ret
      exact ⟨by rw [e.out]; rfl, _, rfl⟩
  · have e : Hid (same M i j = false) := by show _ = _; unfold same; rw [decide_eq_false_iff_not]; exact fun h => h1 (Ms.key_inj h).1
    clear x1 x2
    generalize M.ty j = t at h1 t2
    generalize M.ty i = t' at h1 t1
    have q : (t'.toList == t.toList) = false := bytes_ne h1
    go_enter Try.func18, Try.ntmps18
    go_wp2_with fail
    go_quiet (fail)
    go_wp2
    go_ret
    exact ⟨by rw [e.out]; rfl, _, rfl⟩

/-- 'ZZFinding' of a key that is booked. -/
theorem finding_any (M : Ms) (n k bm sb j : Nat) (blk : Nat → Nat) (w : World) (hF : FMap M n w bm k blk) (hs : M.sized n) (hj : j < n) (hr : rep M.key j < k) (s1 : w.cell? ⟨sb, 1, none⟩ = some (.map (some bm))) :
    Calls Try.prog 19 #[.pointer (some ⟨sb, 0, none⟩), .string (M.ty j), .string (M.sc j)] w fun e w' => e = .returned (.pointer (some ⟨blk (rep M.key j), 0, none⟩)) ∧ w' = w := by
  have L := hF.look hs hj hr
  clear hF hs hj hr
  generalize blk (rep M.key j) = fb at L
  generalize M.ty j = t at L
  generalize M.sc j = s at L
  go_enter Try.func19, Try.ntmps19
  go_wp2
  go_ret
  exact ⟨rfl, rfl⟩

/-- 'ZZFoundLen'. -/
theorem foundLen_any (M : Ms) (n k bm sb : Nat) (blk : Nat → Nat) (w : World) (hF : FMap M n w bm k blk) (s1 : w.cell? ⟨sb, 1, none⟩ = some (.map (some bm))) :
    Calls Try.prog 20 #[.pointer (some ⟨sb, 0, none⟩)] w fun e w' => e = .returned (.int .i64 (cnt M.key k)) ∧ w' = w := by
  obtain ⟨D, ho, _, hs, _⟩ := hF
  have e : Hid (Maps.size D = cnt M.key k) := hs
  rw [← e.out]
  clear hs
  go_enter Try.func20, Try.ntmps20
  go_wp2_with (at_len; refine wpList_len_own _ rfl _ 49 rfl 65 59 Try.underlying49 ptrR bm (cnt M.key k) D rfl ho ?_)
  go_ret
  exact ⟨rfl, rfl⟩

/-- 'New'. -/
theorem new_any (gp np : Nat) (w : World) :
    Calls Try.prog 11 #[.slice (some ⟨gp, 0, none⟩) np np] w fun e w' => e = .returned (.pointer (some ⟨w.heap.size + 1, 0, none⟩)) ∧ w' = (w.alloc (.map #[] 0)).alloc (.cells #[.slice (some ⟨gp, 0, none⟩) np np, .map (some w.heap.size), .slice none 0 0] 52) := by
  have hmm := @run_makeMap Try.prog
  go_enter Try.func11, Try.ntmps11
  go_wp2
  go_ret
  exact ⟨rfl, rfl⟩

end Go.Proofs.Qxb6612310a

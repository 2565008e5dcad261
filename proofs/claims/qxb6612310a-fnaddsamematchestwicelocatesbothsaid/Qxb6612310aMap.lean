/-
  THE MAP 'found' (map[findingKey]*Finding): told by the first match of each key.
-/
import Derived.Test.Qxb6612310aMatches
import Derived.WalkLawsBesides
import Derived.Maps.OwnSet
import Derived.DeepKeys4
namespace Go.Proofs.Qxb6612310a
open Go.RowKit Plain
open Go.Maps (Keyed)
set_option linter.unusedVariables false
set_option linter.unusedSimpArgs false

theorem laidOut : laidOutB Try.prog = true := by kernel_rfl
theorem row65 : (65 : TypeId) < Try.prog.types.size := of_decide_eq_true (by kernel_rfl)
theorem wide65 : (match Try.prog.underlying 65 with | some (.array _ _) | some (.struct _) => true | _ => false) = true := by rw [Try.underlying65]
theorem law65 : Keyed Try.prog 65 := Keyed.of_law (deep_law_laid laidOut (m := 2) (by omega) row65 (by kernel_rfl) wide65)
theorem keyType65 : Try.prog.keyType 65 = true := by kernel_rfl
theorem cells65 : Try.prog.cellsOf 65 = 2 := by kernel_rfl
theorem cells9 : Try.prog.cellsOf 9 = 1 := by kernel_rfl
/-- A key. -/
def keyV (t s : ByteArray) : Value := .agg #[.string t, .string s]
def keyL (q : Key) : Lit := .string (keyBytes [.string q.1, .string q.2])

theorem keyLits_string (d : Nat) {s : ByteArray} (h : s.size ≤ maxLen) : Try.prog.keyLits (d + 1) 9 [.string s] = some [.string s.data.toList] := by
  simp only [Program.keyLits, Try.underlying9]
  simp [h]

theorem keyLits_key (d : Nat) {t s : ByteArray} (ht : t.size ≤ maxLen) (hs : s.size ≤ maxLen) : Try.prog.keyLits (d + 2) 65 [.string t, .string s] = some [.string t.data.toList, .string s.data.toList] := by
  have e1 := keyLits_string d ht
  have e2 := keyLits_string d hs
  unfold Program.keyLits
  rw [Try.underlying65]
  simp only
  rw [cells65, if_pos ⟨rfl, by kernel_rfl⟩]
  simp [cells9, e1, e2]

theorem size_some : ∃ d, Try.prog.types.size + 1 = d + 2 := ⟨Try.prog.types.size - 1, by have h : (65 : Nat) < Try.prog.types.size := row65; omega⟩

theorem keyOf_key {t s : ByteArray} (ht : t.size ≤ maxLen) (hs : s.size ≤ maxLen) : keyOf Try.prog 65 (keyV t s) = some (keyL (t.data.toList, s.data.toList)) := by
  have hf : (keyV t s).formed Try.prog 65 = true := by simp [keyV, Value.formed, Try.underlying65, cells65]
  obtain ⟨d, hd⟩ := size_some
  unfold keyOf
  rw [Try.underlying65]
  simp only
  rw [keyType65, hf, hd]
  show Option.map _ (Try.prog.keyLits (d + 2) 65 [.string t, .string s]) = _
  rw [keyLits_key d ht hs]
  rfl

theorem keyL_inj {t s t' s' : ByteArray} (ht : t.size ≤ maxLen) (hs : s.size ≤ maxLen) (ht' : t'.size ≤ maxLen) (hs' : s'.size ≤ maxLen) (h : keyL (t.data.toList, s.data.toList) = keyL (t'.data.toList, s'.data.toList)) : t = t' ∧ s = s' := by
  have := law65.inj (keyOf_key ht hs) (h ▸ keyOf_key ht' hs')
  simpa [keyV] using this

/-- How an element reads. -/
def ptrR : Value → Option (DataW Unit × List MemPlace)
  | .pointer none => some (.lit (.bool false), [])
  | .pointer (some a) => if a = ⟨a.block, 0, none⟩ then some (.lit (.int .i64 a.block), []) else none
  | _ => none
theorem ptrR_nil : ptrR (.pointer none) = some (.lit (.bool false), []) := rfl
theorem ptrR_mk (b : Nat) : ptrR (.pointer (some ⟨b, 0, none⟩)) = some (.lit (.int .i64 b), []) := by simp [ptrR]
theorem ptrR_inv_nil {v : Value} {ps : List MemPlace} (h : ptrR v = some (.lit (.bool false), ps)) : v = .pointer none := by
  unfold ptrR at h
  split at h
  · rfl
  · split at h <;> simp at h
  · cases h
theorem ptrR_inv {v : Value} {b : Nat} {ps : List MemPlace} (h : ptrR v = some (.lit (.int .i64 b), ps)) : v = .pointer (some ⟨b, 0, none⟩) := by
  unfold ptrR at h
  split at h
  · simp at h
  · rename_i a
    split at h
    · rename_i e
      simp at h
      have : a.block = b := by omega
      rw [e, this]
    · cases h
  · cases h
theorem zero59 (w : World) : (zeroValue 59).run Try.prog w = .ok (.pointer none) w := by kernel_rfl

/-- What is known of the matches. -/
structure Ms where
  ty : Nat → ByteArray
  nm : Nat → ByteArray
  en : Nat → ByteArray
  sc : Nat → ByteArray
  ln : Nat → Int
/-- A match's key. -/
def Ms.key (M : Ms) (i : Nat) : Key := ((M.ty i).data.toList, (M.sc i).data.toList)
def Ms.sized (M : Ms) (n : Nat) : Prop := ∀ i, i < n → (M.ty i).size ≤ maxLen ∧ (M.sc i).size ≤ maxLen

theorem Ms.key_inj {M : Ms} {i j : Nat} (h : M.key i = M.key j) : M.ty i = M.ty j ∧ M.sc i = M.sc j := by
  simp only [Ms.key, Prod.mk.injEq] at h
  exact ⟨ByteArray.ext (Array.ext' h.1), ByteArray.ext (Array.ext' h.2)⟩
theorem Ms.keyL_ne {M : Ms} {n i j : Nat} (hs : M.sized n) (hi : i < n) (hj : j < n) (h : M.key i ≠ M.key j) : keyL (M.key i) ≠ keyL (M.key j) := fun e => by
  obtain ⟨e1, e2⟩ := keyL_inj (hs i hi).1 (hs i hi).2 (hs j hj).1 (hs j hj).2 e
  exact h (by simp [Ms.key, e1, e2])

/-- Block bm is the map, the matches below k booked: the finding of the first match i of its key lies in block 'blk i'. -/
def FMap (M : Ms) (n : Nat) (w : World) (bm k : Nat) (blk : Nat → Nat) : Prop :=
  ∃ D : DataW Unit, w.ownsMap Try.prog 65 ptrR bm (cnt M.key k) D ∧ Maps.IsMap D ∧ Maps.size D = cnt M.key k ∧
    (∀ i, i < k → rep M.key i = i → ∀ z, D.atKey (keyL (M.key i)) z = .lit (.int .i64 (blk i))) ∧
    (∀ j, j < n → k ≤ rep M.key j → Maps.has D (keyL (M.key j)) = false)

theorem FMap.lt {M : Ms} {n : Nat} {w : World} {bm k : Nat} {blk : Nat → Nat} (h : FMap M n w bm k blk) : bm < w.heap.size := let ⟨_, ho, _⟩ := h; ho.lt
theorem FMap.kept {M : Ms} {n : Nat} {w w' : World} {bm k : Nat} {blk : Nat → Nat} {row : Option Nat} (h : FMap M n w bm k blk) (hg : w.grownBy w' row) (hne : some bm ≠ row) : FMap M n w' bm k blk := by
  obtain ⟨D, ho, h3⟩ := h
  exact ⟨D, ho.kept hg hne, h3⟩
theorem FMap.setCell {M : Ms} {n : Nat} {w : World} {bm k : Nat} {blk : Nat → Nat} (h : FMap M n w bm k blk) {a : Addr} (ha : bm ≠ a.block) (u : Value) : FMap M n (w.setCell a u) bm k blk := by
  obtain ⟨D, ho, h3⟩ := h
  exact ⟨D, ho.setCell ha u, h3⟩
theorem FMap_made (M : Ms) (n : Nat) (w : World) (blk : Nat → Nat) : FMap M n (w.alloc (.map #[] 0)) w.heap.size 0 blk :=
  ⟨.map [], World.ownsMap_made w _ _ _, ⟨[], rfl⟩, rfl, fun i h => absurd h (Nat.not_lt_zero _), fun j _ _ => by simp [Maps.has]⟩

/-- 's.found[key]' of a key that is booked. -/
theorem FMap.look {M : Ms} {n : Nat} {w : World} {bm k : Nat} {blk : Nat → Nat} (h : FMap M n w bm k blk) (hs : M.sized n) {j : Nat} (hj : j < n) (hr : rep M.key j < k) :
    (Instr.lookup 49 (.map (some bm)) (.agg #[.string (M.ty j), .string (M.sc j)]) false).run Try.prog w = .ok (.pointer (some ⟨blk (rep M.key j), 0, none⟩)) w := by
  obtain ⟨D, ho, _, _, hh, _⟩ := h
  obtain ⟨v, ps, hrun, hv⟩ := ho.lookup law65 Try.underlying49 (zero59 w) ptrR_nil (keyOf_key (hs j hj).1 (hs j hj).2)
  have := hh _ hr (rep_rep _ _) (.lit (.bool false))
  rw [rep_key M.key j] at this
  rw [show (((M.ty j).data.toList, (M.sc j).data.toList) : Key) = M.key j from rfl, this] at hv
  have e := ptrR_inv hv
  rw [← e]
  exact hrun

/-- .. of a key that is not. -/
theorem FMap.look_not {M : Ms} {n : Nat} {w : World} {bm k : Nat} {blk : Nat → Nat} (h : FMap M n w bm k blk) (hs : M.sized n) {j : Nat} (hj : j < n) (hr : k ≤ rep M.key j) :
    (Instr.lookup 49 (.map (some bm)) (.agg #[.string (M.ty j), .string (M.sc j)]) false).run Try.prog w = .ok (.pointer none) w := by
  obtain ⟨D, ho, _, _, _, hh⟩ := h
  obtain ⟨v, ps, hrun, hv⟩ := ho.lookup law65 Try.underlying49 (zero59 w) ptrR_nil (keyOf_key (hs j hj).1 (hs j hj).2)
  rw [show (((M.ty j).data.toList, (M.sc j).data.toList) : Key) = M.key j from rfl, Maps.atKey_of_not_has (hh j hj hr)] at hv
  have e := ptrR_inv_nil hv
  rw [← e]
  exact hrun

/-- 's.found[key] = f' of a new key. -/
theorem FMap.put {M : Ms} {n : Nat} {w : World} {bm k : Nat} {blk : Nat → Nat} (h : FMap M n w bm k blk) (hs : M.sized n) (hn : n ≤ 4096) (hj : k < n) (hr : rep M.key k = k) (g : Nat) :
    ∃ w', (Instr.mapUpdate 49 (.map (some bm)) (.agg #[.string (M.ty k), .string (M.sc k)]) (.pointer (some ⟨g, 0, none⟩))).run Try.prog w = .ok () w' ∧ FMap M n w' bm (k + 1) (fun i => if i = k then g else blk i) ∧ w.grownBy w' (some bm) := by
  obtain ⟨D, ho, hm, hsz, hh, hnot⟩ := h
  have hkey : keyOf Try.prog 65 (keyV (M.ty k) (M.sc k)) = some (keyL (M.key k)) := keyOf_key (hs k hj).1 (hs k hj).2
  have hkl := law65.key hkey
  have hc := cnt_le M.key k
  obtain ⟨w', hrun, ho', hg⟩ := ho.update law65 Try.underlying49 (by unfold maxLen; omega) hkey (ptrR_mk g)
  have hn0 := hnot k hj (by omega)
  have ec : cnt M.key (k + 1) = cnt M.key k + 1 := by
    simp [cnt, hr]
  refine ⟨w', hrun, ⟨_, by rw [ec]; exact ho', hm.put _ _, ?_, fun i hi hri z => ?_, fun j hjn hjr => ?_⟩, hg⟩
  · rw [Maps.size_put (ho.tidy law65)]
    rw [hn0, ec, hsz]
    rfl
  · by_cases e : i = k
    · subst e
      simp only [if_true]
      exact Maps.atKey_put_same hm hkl _ _
    · simp only [if_neg e]
      rw [Maps.atKey_put_other (Ms.keyL_ne (j := k) hs (by omega) hj (fun e' => e (rep_inj _ hri hr e')))]
      exact hh i (by omega) hri z
  · rw [Maps.has_put_other (Ms.keyL_ne (j := k) hs hjn hj (fun e' => by have := rep_of_key _ e'; omega))]
    exact hnot j hjn (by omega)

/-- A match whose key is booked. -/
theorem FMap.skip {M : Ms} {n : Nat} {w : World} {bm k : Nat} {blk : Nat → Nat} (h : FMap M n w bm k blk) (hr : rep M.key k ≠ k) : FMap M n w bm (k + 1) blk := by
  obtain ⟨D, ho, hm, hsz, hh, hnot⟩ := h
  have ec : cnt M.key (k + 1) = cnt M.key k := by
    simp [cnt, hr]
  refine ⟨D, by rw [ec]; exact ho, hm, by rw [ec]; exact hsz, fun i hi hri => hh i (by rcases Nat.lt_or_ge i k with h | h; exact h; exact absurd (by rw [show k = i by omega]; exact hri) hr) hri, fun j hj hk => hnot j hj (by omega)⟩

/-- 'len(s.found)'. -/
theorem FMap.len {M : Ms} {n : Nat} {w : World} {bm k : Nat} {blk : Nat → Nat} (h : FMap M n w bm k blk) (ty : TypeId) : (Builtin.len_ #[49] ty #[.map (some bm)]).run Try.prog w = .ok (.int .i64 (cnt M.key k)) w := by
  obtain ⟨D, ho, _, hs, _⟩ := h
  rw [ho.len Try.underlying49 ty, hs]

end Go.Proofs.Qxb6612310a

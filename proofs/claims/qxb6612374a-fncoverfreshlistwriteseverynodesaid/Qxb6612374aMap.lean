/-
  THE MAP 'written' (map[listNode]pageRef): every element is the zero pageRef; it is told by the list of its keys.
-/
import Derived.Test.Qxb6612374aRows
import Derived.Test.Qxb6612374aPlain
import Derived.WalkKit
import Derived.WalkSpells
import Derived.WalkLawsBesides
import Derived.Maps.OwnSet
import Derived.DeepKeys4
namespace Go.Proofs.Qxb6612374a
open Go.RowKit Plain
open Go.Maps (Keyed)
set_option linter.unusedVariables false
set_option linter.unusedSimpArgs false

theorem laidOut : laidOutB Try.prog = true := by kernel_rfl
theorem row63 : (63 : TypeId) < Try.prog.types.size := of_decide_eq_true (by kernel_rfl)
theorem wide63 : (match Try.prog.underlying 63 with | some (.array _ _) | some (.struct _) => true | _ => false) = true := by rw [Try.underlying63]
theorem law63 : Keyed Try.prog 63 := Keyed.of_law (deep_law_laid laidOut (m := 2) (by omega) row63 (by kernel_rfl) wide63)
theorem keyType63 : Try.prog.keyType 63 = true := by kernel_rfl
theorem cells63 : Try.prog.cellsOf 63 = 2 := by kernel_rfl
theorem cells3 : Try.prog.cellsOf 3 = 1 := by kernel_rfl
/-- A node as a key. -/
def nodeV (l i : Int) : Value := .agg #[.int .i64 l, .int .i64 i]
def nodeL (l i : Int) : Lit := .string (keyBytes [.int .i64 l, .int .i64 i])

theorem keyLits_int (d : Nat) {n : Int} (h : (Lit.int .i64 n).wf = true) : Try.prog.keyLits (d + 1) 3 [.int .i64 n] = some [.int .i64 n] := by
  simp only [Program.keyLits, Try.underlying3]
  simp [h]

theorem keyLits_node (d : Nat) {l i : Int} (hl : (Lit.int .i64 l).wf = true) (hi : (Lit.int .i64 i).wf = true) : Try.prog.keyLits (d + 2) 63 [.int .i64 l, .int .i64 i] = some [.int .i64 l, .int .i64 i] := by
  have e1 := keyLits_int d hl
  have e2 := keyLits_int d hi
  unfold Program.keyLits
  rw [Try.underlying63]
  simp only
  rw [cells63, if_pos ⟨rfl, by kernel_rfl⟩]
  simp [cells3, e1, e2]

theorem keyOf_node {l i : Int} (hl : (Lit.int .i64 l).wf = true) (hi : (Lit.int .i64 i).wf = true) : keyOf Try.prog 63 (nodeV l i) = some (nodeL l i) := by
  have hf : (nodeV l i).formed Try.prog 63 = true := by simp [nodeV, Value.formed, Try.underlying63, cells63]
  have hs : ∃ d, Try.prog.types.size + 1 = d + 2 := ⟨86, by kernel_rfl⟩
  obtain ⟨d, hd⟩ := hs
  unfold keyOf
  rw [Try.underlying63]
  simp only
  rw [keyType63, hf, hd]
  show Option.map _ (Try.prog.keyLits (d + 2) 63 [.int .i64 l, .int .i64 i]) = _
  rw [keyLits_node d hl hi]
  rfl

theorem nodeL_inj {l i l' i' : Int} (hl : (Lit.int .i64 l).wf = true) (hi : (Lit.int .i64 i).wf = true) (hl' : (Lit.int .i64 l').wf = true) (hi' : (Lit.int .i64 i').wf = true) (h : nodeL l i = nodeL l' i') : l = l' ∧ i = i' := by
  have := law63.inj (keyOf_node hl hi) (h ▸ keyOf_node hl' hi')
  simpa [nodeV] using this

/-! ### the elements -/
/-- The zero pageRef. -/
def refV : Value := .agg #[.int .u64 0, .int .u32 0]
/-- How an element reads: the zero pageRef alone. -/
def refR : Value → Option (DataW Unit × List MemPlace)
  | .agg cs => match cs.toList with
    | [.int k n, .int k' m] => if k = .u64 ∧ n = 0 ∧ k' = .u32 ∧ m = 0 then some (.agg [], []) else none
    | _ => none
  | _ => none
theorem refR_mk : refR refV = some (.agg [], []) := by simp [refR, refV]
theorem refR_inv {v : Value} {z : DataW Unit × List MemPlace} (h : refR v = some z) : v = refV := by
  unfold refR at h
  split at h
  · rename_i cs
    split at h
    · rename_i k n k' m e
      split at h
      · rename_i hc
        obtain ⟨rfl, rfl, rfl, rfl⟩ := hc
        cases cs
        simp at e
        subst e
        rfl
      · cases h
    · cases h
  · cases h
theorem zero60 (w : World) : (zeroValue 60).run Try.prog w = .ok refV w := by kernel_rfl

theorem wf_nat {n : Nat} (h : n ≤ 196608) : (Lit.int .i64 (n : Int)).wf = true := WalkArith.wf_i64 (by omega)

/-! ### the map -/
/-- Block b is a map whose keys are the nodes of L, each once; every element is the zero pageRef. -/
def WrMap (w : World) (b : Nat) (L : List (Nat × Nat)) : Prop :=
  L.Nodup ∧ (∀ x, x ∈ L → x.1 ≤ 2 ∧ x.2 ≤ 65536) ∧
  ∃ D : DataW Unit, w.ownsMap Try.prog 63 refR b L.length D ∧ Maps.IsMap D ∧ Maps.size D = L.length ∧
    ∀ l i : Nat, l ≤ 2 → i ≤ 65536 → (Maps.has D (nodeL l i) = true ↔ (l, i) ∈ L)

theorem WrMap.lt {w : World} {b : Nat} {L : List (Nat × Nat)} (h : WrMap w b L) : b < w.heap.size := let ⟨_, _, _, ho, _⟩ := h; ho.lt

theorem WrMap.kept {w w' : World} {b : Nat} {L : List (Nat × Nat)} {row : Option Nat} (h : WrMap w b L) (hg : w.grownBy w' row) (hne : some b ≠ row) : WrMap w' b L := by
  obtain ⟨h1, h2, D, ho, h3⟩ := h
  exact ⟨h1, h2, D, ho.kept hg hne, h3⟩

theorem WrMap_made (w : World) : WrMap (w.alloc (.map #[] 0)) w.heap.size [] :=
  ⟨List.nodup_nil, fun x hx => by simp at hx, .map [], World.ownsMap_made w _ _ _, ⟨[], rfl⟩, rfl, fun l i _ _ => by simp [Maps.has]⟩

/-- 'ref, ok := written[node]'. -/
theorem WrMap.look {w : World} {b : Nat} {L : List (Nat × Nat)} (h : WrMap w b L) {l i : Nat} (hl : l ≤ 2) (hi : i ≤ 65536) :
    (Instr.lookup 54 (.map (some b)) (nodeV l i) true).run Try.prog w = .ok (.tuple #[refV, .bool (decide ((l, i) ∈ L))]) w := by
  obtain ⟨_, _, D, ho, _, _, hh⟩ := h
  obtain ⟨v, ps, hrun, hv⟩ := ho.look_ok law63 Try.underlying54 (zero60 w) refR_mk (keyOf_node (wf_nat (n := l) (by omega)) (wf_nat (n := i) (by omega)))
  rw [hrun, refR_inv hv]
  have e : Maps.has D (nodeL l i) = decide ((l, i) ∈ L) := by
    rw [Bool.eq_iff_iff]
    simpa using hh l i hl hi
  rw [e]

/-- 'written[node] = pageRef{}' of a node that is not there. -/
theorem WrMap.put {w : World} {b : Nat} {L : List (Nat × Nat)} (h : WrMap w b L) {l i : Nat} (hl : l ≤ 2) (hi : i ≤ 65536) (hn : (l, i) ∉ L) (hL : L.length ≤ 196608) :
    ∃ w', (Instr.mapUpdate 54 (.map (some b)) (nodeV l i) refV).run Try.prog w = .ok () w' ∧ WrMap w' b (L ++ [(l, i)]) ∧ w.grownBy w' (some b) := by
  obtain ⟨h1, h2, D, ho, hm, hs, hh⟩ := h
  have hkey := keyOf_node (wf_nat (n := l) (by omega)) (wf_nat (n := i) (by omega))
  have hkl := law63.key hkey
  obtain ⟨w', hrun, ho', hg⟩ := ho.update law63 Try.underlying54 (by unfold maxLen; omega) hkey refR_mk
  have hnot : Maps.has D (nodeL l i) = false := by
    cases e : Maps.has D (nodeL l i) with
    | false => rfl
    | true => exact absurd ((hh l i hl hi).1 e) hn
  refine ⟨w', hrun, ⟨nodup_snoc h1 hn, fun x hx => ?_, D.put (nodeL l i) (.agg []), by simpa using ho', hm.put _ _, ?_, fun l' i' hl' hi' => ?_⟩, hg⟩
  · rcases List.mem_append.1 hx with hx | hx
    · exact h2 x hx
    · simp at hx; subst hx; exact ⟨hl, hi⟩
  · rw [Maps.size_put (ho.tidy law63), hnot]
    simp [hs]
  · by_cases e : (l', i') = (l, i)
    · cases e
      rw [Maps.has_put_same hm hkl]
      simp
    · have hne : nodeL l' i' ≠ nodeL l i := fun e' => by
        obtain ⟨e1, e2⟩ := nodeL_inj (wf_nat (n := l') (by omega)) (wf_nat (n := i') (by omega)) (wf_nat (n := l) (by omega)) (wf_nat (n := i) (by omega)) e'
        exact e (by rw [Int.ofNat_inj.1 e1, Int.ofNat_inj.1 e2])
      rw [Maps.has_put_other hne, hh l' i' hl' hi', List.mem_append]
      constructor
      · exact .inl
      · rintro (h | h)
        · exact h
        · simp at h; exact absurd (by rw [h.1, h.2]) e

/-- 'len(written)'. -/
theorem WrMap.len {w : World} {b : Nat} {L : List (Nat × Nat)} (h : WrMap w b L) (ty : TypeId) : (Builtin.len_ #[54] ty #[.map (some b)]).run Try.prog w = .ok (.int .i64 L.length) w := by
  obtain ⟨_, _, D, ho, _, hs, _⟩ := h
  rw [ho.len Try.underlying54 ty, hs]

end Go.Proofs.Qxb6612374a

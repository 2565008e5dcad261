/-
  THE PLAIN LAWS of this seat: levels, nodes, counting. No Go in sight.
-/
namespace Go.Proofs.Qxb6612374a.Plain

/-- The count of nodes on level k of a list of n leaves. -/
def lv (n : Nat) : Nat → Nat
  | 0 => n
  | k + 1 => (lv n k + 338) / 339

/-- The last level (n ≤ 65536 leaves). -/
def top (n : Nat) : Nat := if n ≤ 1 then 0 else if n ≤ 339 then 1 else 2

theorem lv_one (n : Nat) : lv n 1 = (n + 338) / 339 := rfl
theorem lv_two (n : Nat) : lv n 2 = ((n + 338) / 339 + 338) / 339 := rfl
theorem lv_zero (n : Nat) : lv n 0 = n := rfl
theorem top_le (n : Nat) : top n ≤ 2 := by unfold top; split <;> (try split) <;> omega

theorem lv_le (n : Nat) (h : n ≤ 65536) : ∀ k, lv n k ≤ 65536
  | 0 => h
  | k + 1 => by
    have := lv_le n h k
    show (lv n k + 338) / 339 ≤ 65536
    omega

theorem lv_top (n : Nat) (h : n ≤ 65536) : lv n (top n) ≤ 1 := by
  unfold top
  split
  · rw [lv_zero]; omega
  · split
    · rw [lv_one]; omega
    · rw [lv_two]; omega

theorem lv_below (n k : Nat) (h : n ≤ 65536) (hk : k < top n) : 1 < lv n k := by
  unfold top at hk
  split at hk
  · omega
  · split at hk
    · obtain rfl : k = 0 := by omega
      rw [lv_zero]; omega
    · rcases (show k = 0 ∨ k = 1 by omega) with rfl | rfl
      · rw [lv_zero]; omega
      · rw [lv_one]; omega

/-- One level up: the span of a node of level k is 339^k leaves. -/
theorem lv_span (n k : Nat) (h : n ≤ 65536) (hk : k ≤ 2) : lv n k = n / 339 ^ k + (if n % 339 ^ k ≠ 0 then 1 else 0) := by
  rcases (show k = 0 ∨ k = 1 ∨ k = 2 by omega) with rfl | rfl | rfl
  · simp [lv, Nat.mod_one]
  · rw [lv_one]
    simp only [Nat.pow_one]
    split <;> omega
  · rw [lv_two]
    simp only [show 339 ^ 2 = 114921 from rfl]
    split <;> omega

theorem parent_lt (n k i : Nat) (h : i < lv n k) : i / 339 < lv n (k + 1) := by
  show i / 339 < (lv n k + 338) / 339
  omega

/-- A node of the list; where the list has one old leaf ('one'), that leaf is no node to be written. -/
def Node (one : Bool) (n : Nat) (x : Nat × Nat) : Prop := x.1 ≤ top n ∧ x.2 < lv n x.1 ∧ (one = true → x ≠ (0, 0))

theorem Node.parent {one : Bool} {n k i : Nat} (h : Node one n (k, i)) (hk : k < top n) : Node one n (k + 1, i / 339) :=
  ⟨hk, parent_lt n k i h.2.1, fun _ e => by simp at e⟩

theorem Node.bounds {one : Bool} {n : Nat} {x : Nat × Nat} (hn : n ≤ 65536) (h : Node one n x) : x.1 ≤ 2 ∧ x.2 < 65536 := by
  have h1 := h.1
  have h2 := h.2.1
  have := top_le n
  have := lv_le n hn x.1
  omega

/-! ### counting -/
theorem nodup_le {α : Type} [DecidableEq α] : ∀ (l1 l2 : List α), l1.Nodup → (∀ x, x ∈ l1 → x ∈ l2) → l1.length ≤ l2.length
  | [], _, _, _ => Nat.zero_le _
  | x :: r, l2, h, hs => by
    obtain ⟨h1, h2⟩ := List.nodup_cons.1 h
    have hx : x ∈ l2 := hs x (List.mem_cons_self ..)
    have ih := nodup_le r (l2.erase x) h2 (fun y hy => by
      have hne : y ≠ x := fun e => h1 (e ▸ hy)
      exact (List.mem_erase_of_ne hne).2 (hs y (List.mem_cons_of_mem _ hy)))
    rw [List.length_erase_of_mem hx] at ih
    have : 0 < l2.length := List.length_pos_of_mem hx
    simp only [List.length_cons]
    omega

theorem nodup_same {α : Type} [DecidableEq α] {l1 l2 : List α} (h1 : l1.Nodup) (h2 : l2.Nodup) (h : ∀ x, x ∈ l1 ↔ x ∈ l2) : l1.length = l2.length :=
  Nat.le_antisymm (nodup_le l1 l2 h1 (fun x hx => (h x).1 hx)) (nodup_le l2 l1 h2 (fun x hx => (h x).2 hx))

theorem nodup_snoc {α : Type} {l : List α} {x : α} (h : l.Nodup) (hx : x ∉ l) : (l ++ [x]).Nodup := by
  rw [List.nodup_append]
  exact ⟨h, by simp, fun a ha b hb e => by simp at hb; exact hx (hb ▸ e ▸ ha)⟩

/-- Nodes that are all different are fewer than 2^20. -/
theorem nodes_few {one : Bool} {n : Nat} (hn : n ≤ 65536) {l : List (Nat × Nat)} (h : l.Nodup) (hN : ∀ x, x ∈ l → Node one n x) : l.length ≤ 196608 := by
  have h1 : (l.map fun x => x.1 * 65536 + x.2).Nodup := by
    rw [List.nodup_iff_pairwise_ne, List.pairwise_map]
    refine List.Pairwise.imp_of_mem ?_ (List.nodup_iff_pairwise_ne.1 h)
    intro a b ha hb hne e
    have ba := (hN a ha).bounds hn
    have bb := (hN b hb).bounds hn
    exact hne (Prod.ext (by omega) (by omega))
  have h2 := nodup_le _ (List.range 196608) h1 (fun y hy => by
    obtain ⟨x, hx, rfl⟩ := List.mem_map.1 hy
    have := (hN x hx).bounds hn
    simp only [List.mem_range]
    omega)
  simpa using h2

/-- What stands ahead of (k, i) in the order of levels. -/
def Ahead (k i : Nat) (x : Nat × Nat) : Prop := x.1 < k ∨ (x.1 = k ∧ x.2 < i)

theorem ahead_next (k i : Nat) (x : Nat × Nat) : Ahead k (i + 1) x ↔ Ahead k i x ∨ x = (k, i) := by
  obtain ⟨a, b⟩ := x
  simp only [Ahead, Prod.mk.injEq]
  omega

end Go.Proofs.Qxb6612374a.Plain

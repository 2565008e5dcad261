/-
  THE PLAIN LAWS of this seat: keys, the first match of a key, how many keys, the places of a key. No Go in sight.
-/
namespace Go.Proofs.Qxb6612310a.Plain

/-- A key: a pattern's type and a secret, as bytes. -/
abbrev Key := List UInt8 × List UInt8

/-- The least i < m with j's key; else m. -/
def repTo (κ : Nat → Key) (j : Nat) : Nat → Nat
  | 0 => 0
  | m + 1 => if repTo κ j m < m then repTo κ j m else if κ m = κ j then m else m + 1

theorem repTo_spec (κ : Nat → Key) (j : Nat) : ∀ m, repTo κ j m ≤ m ∧ (∀ i, i < repTo κ j m → κ i ≠ κ j) ∧ (repTo κ j m < m → κ (repTo κ j m) = κ j)
  | 0 => ⟨Nat.le_refl _, fun i h => absurd h (Nat.not_lt_zero i), fun h => absurd h (Nat.lt_irrefl _)⟩
  | m + 1 => by
    obtain ⟨h1, h2, h3⟩ := repTo_spec κ j m
    unfold repTo
    split
    · rename_i h
      exact ⟨by omega, h2, fun _ => h3 h⟩
    · rename_i h
      have e : repTo κ j m = m := by omega
      split
      · rename_i hk
        refine ⟨by omega, fun i hi => h2 i (by omega), fun _ => hk⟩
      · rename_i hk
        refine ⟨Nat.le_refl _, fun i hi => ?_, fun hh => absurd hh (Nat.lt_irrefl _)⟩
        by_cases ei : i = m
        · rw [ei]; exact hk
        · exact h2 i (by omega)

/-- The first match of j's key. -/
def rep (κ : Nat → Key) (j : Nat) : Nat := repTo κ j j

theorem rep_le (κ : Nat → Key) (j : Nat) : rep κ j ≤ j := (repTo_spec κ j j).1
theorem rep_key (κ : Nat → Key) (j : Nat) : κ (rep κ j) = κ j := by
  by_cases h : rep κ j < j
  · exact (repTo_spec κ j j).2.2 h
  · rw [show rep κ j = j by have := rep_le κ j; omega]
theorem rep_least (κ : Nat → Key) (j i : Nat) (h : i < rep κ j) : κ i ≠ κ j := (repTo_spec κ j j).2.1 i h
theorem rep_of_key (κ : Nat → Key) {i j : Nat} (h : κ i = κ j) : rep κ i = rep κ j := by
  have a := rep_least κ i (rep κ j)
  have b := rep_least κ j (rep κ i)
  have ka := rep_key κ i
  have kb := rep_key κ j
  rcases Nat.lt_trichotomy (rep κ i) (rep κ j) with lt | e | lt
  · exact absurd (ka.trans h) (b lt)
  · exact e
  · exact absurd (kb.trans h.symm) (a lt)
theorem rep_rep (κ : Nat → Key) (j : Nat) : rep κ (rep κ j) = rep κ j := rep_of_key κ (rep_key κ j)
/-- Two firsts of one key are one. -/
theorem rep_inj (κ : Nat → Key) {i j : Nat} (hi : rep κ i = i) (hj : rep κ j = j) (h : κ i = κ j) : i = j := by
  rw [← hi, ← hj]; exact rep_of_key κ h
/-- j is the first of its key just if no earlier one bears it. -/
theorem first_iff (κ : Nat → Key) (j : Nat) : rep κ j = j ↔ ∀ i, i < j → κ i ≠ κ j :=
  ⟨fun h i hi => rep_least κ j i (by omega), fun h => by
    by_cases e : rep κ j < j
    · exact absurd (rep_key κ j) (h _ e)
    · have := rep_le κ j; omega⟩

/-- How many firsts there are below k. -/
def cnt (κ : Nat → Key) : Nat → Nat
  | 0 => 0
  | k + 1 => cnt κ k + if rep κ k = k then 1 else 0
theorem cnt_le (κ : Nat → Key) : ∀ k, cnt κ k ≤ k
  | 0 => Nat.le_refl _
  | k + 1 => by
    have := cnt_le κ k
    unfold cnt
    split <;> omega

/-- A place. -/
structure Loc where
  so : ByteArray
  co : ByteArray
  pa : ByteArray
  ln : Int

/-- The place 'a', its line set. -/
def Loc.at (a : Loc) (l : Int) : Loc := { a with ln := l }

/-- The places of i's key among the first m matches, at place a. -/
def hits (κ : Nat → Key) (ln : Nat → Int) (a : Loc) (i : Nat) : Nat → List Loc
  | 0 => []
  | m + 1 => if κ m = κ i then hits κ ln a i m ++ [a.at (ln m)] else hits κ ln a i m

theorem hits_len (κ : Nat → Key) (ln : Nat → Int) (a : Loc) (i : Nat) : ∀ m, (hits κ ln a i m).length ≤ m
  | 0 => Nat.le_refl _
  | m + 1 => by
    have := hits_len κ ln a i m
    unfold hits
    split
    · rw [List.length_append]; simp only [List.length_cons, List.length_nil]; omega
    · omega

theorem hits_none (κ : Nat → Key) (ln : Nat → Int) (a : Loc) (i : Nat) (hi : rep κ i = i) : ∀ m, m ≤ i → hits κ ln a i m = []
  | 0, _ => rfl
  | m + 1, h => by
    unfold hits
    rw [if_neg ((first_iff κ i).1 hi m (by omega))]
    exact hits_none κ ln a i hi m (by omega)

theorem hits_yes (κ : Nat → Key) (ln : Nat → Int) (a : Loc) (i m : Nat) (h : κ m = κ i) : hits κ ln a i (m + 1) = hits κ ln a i m ++ [a.at (ln m)] := by
  show (if κ m = κ i then _ else _) = _
  rw [if_pos h]
theorem hits_no (κ : Nat → Key) (ln : Nat → Int) (a : Loc) (i m : Nat) (h : κ m ≠ κ i) : hits κ ln a i (m + 1) = hits κ ln a i m := by
  show (if κ m = κ i then _ else _) = _
  rw [if_neg h]

/-- The beginnings of a key's places. -/
theorem hits_prefix (κ : Nat → Key) (ln : Nat → Int) (a : Loc) (i m : Nat) : ∀ d, ∃ r, hits κ ln a i (m + d) = hits κ ln a i m ++ r
  | 0 => ⟨[], by rw [List.append_nil]; rfl⟩
  | d + 1 => by
    obtain ⟨r, hr⟩ := hits_prefix κ ln a i m d
    show ∃ r, hits κ ln a i (m + d + 1) = _
    by_cases h : κ (m + d) = κ i
    · rw [hits_yes κ ln a i _ h, hr, List.append_assoc]
      exact ⟨_, rfl⟩
    · rw [hits_no κ ln a i _ h, hr]
      exact ⟨_, rfl⟩

/-- The places of i's key at the first c of the places 'as', each over n matches. -/
def all (κ : Nat → Key) (ln : Nat → Int) (as : Nat → Loc) (n i : Nat) : Nat → List Loc
  | 0 => []
  | c + 1 => all κ ln as n i c ++ hits κ ln (as c) i n

theorem all_len (κ : Nat → Key) (ln : Nat → Int) (as : Nat → Loc) (n i : Nat) : ∀ c, (all κ ln as n i c).length ≤ c * n
  | 0 => by simp [all]
  | c + 1 => by
    have h1 := all_len κ ln as n i c
    have h2 := hits_len κ ln (as c) i n
    show (all κ ln as n i c ++ hits κ ln (as c) i n).length ≤ _
    rw [List.length_append, Nat.add_mul, Nat.one_mul]
    omega

theorem all_prefix (κ : Nat → Key) (ln : Nat → Int) (as : Nat → Loc) (n i c : Nat) : ∀ d, ∃ r, all κ ln as n i (c + d) = all κ ln as n i c ++ r
  | 0 => ⟨[], by rw [List.append_nil]; rfl⟩
  | d + 1 => by
    obtain ⟨r, hr⟩ := all_prefix κ ln as n i c d
    show ∃ r, all κ ln as n i (c + d) ++ hits κ ln (as (c + d)) i n = _
    rw [hr, List.append_assoc]
    exact ⟨_, rfl⟩

/-- THE PLACE IN HAND: in round (c, j) of the check, where j bears i's key, the next place of the list is 'as c' at j's line. -/
theorem all_next (κ : Nat → Key) (ln : Nat → Int) (as : Nat → Loc) (n i c C j : Nat) (hc : c < C) (hj : j < n) (hk : κ j = κ i) :
    ∃ r, all κ ln as n i C = all κ ln as n i c ++ hits κ ln (as c) i j ++ (as c).at (ln j) :: r := by
  obtain ⟨r1, h1⟩ := all_prefix κ ln as n i (c + 1) (C - (c + 1))
  rw [show c + 1 + (C - (c + 1)) = C by omega] at h1
  obtain ⟨r2, h2⟩ := hits_prefix κ ln (as c) i (j + 1) (n - (j + 1))
  rw [show j + 1 + (n - (j + 1)) = n by omega, hits_yes κ ln (as c) i j hk] at h2
  refine ⟨r2 ++ r1, ?_⟩
  rw [h1]
  show all κ ln as n i c ++ hits κ ln (as c) i n ++ r1 = _
  rw [h2]
  simp [List.append_assoc]

end Go.Proofs.Qxb6612310a.Plain

/-
  THE PLAIN LAWS of this seat: no Go in sight but the order of strings.
-/
import GoSem.Op.String
namespace Go.Proofs.Qxb6612438a.Plain

/-- Go's '<' on strings. -/
def lt (a b : ByteArray) : Bool := Op.bytesLess a.toList b.toList

theorem bl_irrefl : ∀ a : List UInt8, Op.bytesLess a a = false
  | [] => rfl
  | x :: xs => by simp [Op.bytesLess, bl_irrefl xs, UInt8.lt_irrefl]

theorem bl_trans : ∀ a b c : List UInt8, Op.bytesLess a b = true → Op.bytesLess b c = true → Op.bytesLess a c = true
  | _, [], _, h, _ => by simp [Op.bytesLess] at h
  | _, _ :: _, [], _, h => by simp [Op.bytesLess] at h
  | [], _ :: _, _ :: _, _, _ => by simp [Op.bytesLess]
  | x :: xs, y :: ys, z :: zs, h, k => by
    simp only [Op.bytesLess, Bool.or_eq_true, decide_eq_true_eq, Bool.and_eq_true, beq_iff_eq] at h k ⊢
    rcases h with h | ⟨rfl, h⟩
    · rcases k with k | ⟨rfl, k⟩
      · exact .inl (UInt8.lt_trans h k)
      · exact .inl h
    · rcases k with k | ⟨rfl, k⟩
      · exact .inl k
      · exact .inr ⟨rfl, bl_trans xs ys zs h k⟩

/-- The order is whole: what is not below b, and b not below c, is not below c. -/
theorem bl_negtrans : ∀ a b c : List UInt8, Op.bytesLess a b = false → Op.bytesLess b c = false → Op.bytesLess a c = false
  | _, _, [], _, _ => by simp [Op.bytesLess]
  | _, [], _ :: _, _, h => by simp [Op.bytesLess] at h
  | [], _ :: _, _ :: _, h, _ => by simp [Op.bytesLess] at h
  | x :: xs, y :: ys, z :: zs, h, k => by
    simp only [Op.bytesLess, Bool.or_eq_false_iff, decide_eq_false_iff_not, Bool.and_eq_false_iff, beq_eq_false_iff_ne] at h k ⊢
    have e : ∀ p q : UInt8, ¬ p < q → p ≠ q → q < p := fun p q h1 h2 => by
      rw [UInt8.lt_iff_toNat_lt] at h1 ⊢
      have : p.toNat ≠ q.toNat := fun e => h2 (UInt8.toNat_inj.1 e)
      omega
    have n1 : ¬ x < z := by
      intro hxz
      have h1 := h.1
      have k1 := k.1
      rw [UInt8.lt_iff_toNat_lt] at h1 k1 hxz
      omega
    refine ⟨n1, ?_⟩
    by_cases exz : x = z
    · right
      subst exz
      have e1 : x = y := by
        by_cases e1 : x = y
        · exact e1
        · exact absurd (e x y h.1 e1) k.1
      subst e1
      exact bl_negtrans xs ys zs (h.2.resolve_left (fun f => f rfl)) (k.2.resolve_left (fun f => f rfl))
    · exact .inl exz

theorem lt_irrefl (a : ByteArray) : lt a a = false := bl_irrefl _
theorem lt_trans {a b c : ByteArray} (h : lt a b = true) (k : lt b c = true) : lt a c = true := bl_trans _ _ _ h k
theorem lt_negtrans {a b c : ByteArray} (h : lt a b = false) (k : lt b c = false) : lt a c = false := bl_negtrans _ _ _ h k
theorem lt_congr {a b c : ByteArray} (h : a.toList = b.toList) : lt a c = lt b c := by unfold lt; rw [h]

/-- What a firstWrong keeps: nothing, or the number and the host of a refusal. -/
abbrev St := Option (Nat × ByteArray)

/-- 'add' of refusal k at host h. -/
def put (st : St) (k : Nat) (h : ByteArray) : St :=
  match st with
  | none => some (k, h)
  | some (j, g) => if lt h g then some (k, h) else some (j, g)

/-- One round of the feeding: R: is k refused? H: its host. -/
def step (R : Nat → Bool) (H : Nat → ByteArray) (st : St) (k : Nat) : St := if R k then put st k (H k) else st

/-- n rounds from 'a' on. -/
def feed (R : Nat → Bool) (H : Nat → ByteArray) (st : St) (a : Nat) : Nat → St
  | 0 => st
  | n + 1 => step R H (feed R H st a n) (a + n)

/-- 'addKept': what the second keeps is added to the first. -/
def merge (st x : St) : St :=
  match x with
  | none => st
  | some (k, h) => put st k h

theorem put_merge (st : St) (j : Nat) (g : ByteArray) (k : Nat) (h : ByteArray) : put (put st j g) k h = merge st (put (some (j, g)) k h) := by
  cases st with
  | none =>
    simp only [put, merge]
    cases lt h g <;> simp
  | some p =>
    obtain ⟨i, f⟩ := p
    simp only [put, merge]
    cases e1 : lt g f <;> cases e2 : lt h g
    · simp only [Bool.false_eq_true, if_false, lt_negtrans e2 e1, e1]
    · simp
    · simp [e2, e1]
    · simp [e2, lt_trans e2 e1]

theorem step_merge (R : Nat → Bool) (H : Nat → ByteArray) (st x : St) (k : Nat) : step R H (merge st x) k = merge st (step R H x k) := by
  unfold step
  cases R k with
  | false => simp
  | true =>
    simp only [if_true]
    cases x with
    | none => simp [merge, put]
    | some p => exact put_merge st p.1 p.2 k (H k)

theorem feed_merge (R : Nat → Bool) (H : Nat → ByteArray) (st : St) (a : Nat) : ∀ n, feed R H st a n = merge st (feed R H none a n)
  | 0 => rfl
  | n + 1 => by
    show step R H (feed R H st a n) (a + n) = merge st (step R H (feed R H none a n) (a + n))
    rw [feed_merge R H st a n, step_merge]

theorem feed_add (R : Nat → Bool) (H : Nat → ByteArray) (st : St) (a m : Nat) : ∀ n, feed R H st a (m + n) = feed R H (feed R H st a m) (a + m) n
  | 0 => rfl
  | n + 1 => by
    show step R H (feed R H st a (m + n)) (a + (m + n)) = step R H (feed R H (feed R H st a m) (a + m) n) (a + m + n)
    rw [feed_add R H st a m n, Nat.add_assoc]

/-- THE TWO PARTS MERGED ARE THE WHOLE. -/
theorem halves (R : Nat → Bool) (H : Nat → ByteArray) (s n : Nat) : merge (feed R H none 0 s) (feed R H none s n) = feed R H none 0 (s + n) := by
  rw [feed_add, feed_merge R H (feed R H none 0 s), Nat.zero_add]

/-- What a firstWrong that has been fed k rounds from 0 on keeps. -/
def Good (R : Nat → Bool) (H : Nat → ByteArray) (n : Nat) : St → Prop
  | none => ∀ k, k < n → R k = false
  | some (j, g) => j < n ∧ R j = true ∧ g = H j ∧ (∀ k, k < n → R k = true → lt (H k) g = false) ∧ ∀ k, k < j → R k = true → (H k).toList ≠ g.toList

theorem good_feed (R : Nat → Bool) (H : Nat → ByteArray) : ∀ n, Good R H n (feed R H none 0 n)
  | 0 => fun k h => absurd h (Nat.not_lt_zero k)
  | n + 1 => by
    have ih := good_feed R H n
    show Good R H (n + 1) (step R H (feed R H none 0 n) (0 + n))
    rw [Nat.zero_add]
    generalize feed R H none 0 n = st at ih ⊢
    unfold step
    cases e : R n with
    | false =>
      simp only [Bool.false_eq_true, if_false]
      cases st with
      | none =>
        intro k hk
        by_cases h : k = n
        · rw [h]; exact e
        · exact ih k (by omega)
      | some p =>
        obtain ⟨j, g⟩ := p
        obtain ⟨h1, h2, h3, h4, h5⟩ := ih
        refine ⟨by omega, h2, h3, fun k hk hr => ?_, h5⟩
        by_cases h : k = n
        · rw [h, e] at hr; cases hr
        · exact h4 k (by omega) hr
    | true =>
      simp only [if_true]
      cases st with
      | none =>
        refine ⟨by omega, e, rfl, fun k hk hr => ?_, fun k hk hr => ?_⟩
        · by_cases h : k = n
          · rw [h]; exact lt_irrefl _
          · rw [ih k (by omega)] at hr; cases hr
        · rw [ih k hk] at hr; cases hr
      | some p =>
        obtain ⟨j, g⟩ := p
        obtain ⟨h1, h2, h3, h4, h5⟩ := ih
        simp only [put]
        cases el : lt (H n) g with
        | false =>
          simp only [Bool.false_eq_true, if_false]
          refine ⟨by omega, h2, h3, fun k hk hr => ?_, h5⟩
          by_cases h : k = n
          · rw [h]; exact el
          · exact h4 k (by omega) hr
        | true =>
          simp only [if_true]
          refine ⟨by omega, e, rfl, fun k hk hr => ?_, fun k hk hr he => ?_⟩
          · by_cases h : k = n
            · rw [h]; exact lt_irrefl _
            · cases ek : lt (H k) (H n) with
              | false => rfl
              | true =>
                have := lt_trans ek el
                rw [h4 k (by omega) hr] at this
                cases this
          · have := h4 k hk hr
            rw [lt_congr he, el] at this
            cases this

end Go.Proofs.Qxb6612438a.Plain

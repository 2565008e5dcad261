import Derived.Test.Qxb6612438aWalks2
namespace Go.Proofs.Qxb6612438a
open Go.RowKit Plain
set_option linter.unusedVariables false
set_option linter.unusedSimpArgs false

/-- The block b is a firstWrong that keeps st. -/
def Keeps (w : World) (b : Nat) : St → Prop
  | none => w.cell? ⟨b, 0, none⟩ = some .nilIface ∧ w.cell? ⟨b, 1, none⟩ = some (.string ByteArray.empty)
  | some (j, g) => ∃ c, c ≠ b ∧ w.cell? ⟨b, 0, none⟩ = some (.iface 40 (.pointer (some ⟨c, 0, none⟩))) ∧ w.cell? ⟨b, 1, none⟩ = some (.string g) ∧ w.cell? ⟨c, 0, none⟩ = some (.int .i64 j)
def FW (w : World) (b : Nat) (st : St) : Prop := w.frozen? ⟨b, 0, none⟩ = false ∧ w.frozen? ⟨b, 1, none⟩ = false ∧ Keeps w b st

/-- Of old memory nothing has turned: what is kept is kept. -/
theorem FW.below {w w' : World} {b : Nat} {st : St} (h : FW w b st) (hb : Below w.heap.size w w') : FW w' b st := by
  obtain ⟨h1, h2, h3⟩ := h
  cases st with
  | none =>
    have lt := World.block_lt_of_cell? _ _ h3.1
    refine ⟨?_, ?_, ?_, ?_⟩
    · rw [hb.frozen (p := ⟨b, 0, none⟩) lt]; exact h1
    · rw [hb.frozen (p := ⟨b, 1, none⟩) lt]; exact h2
    · rw [hb.cell (p := ⟨b, 0, none⟩) lt]; exact h3.1
    · rw [hb.cell (p := ⟨b, 1, none⟩) lt]; exact h3.2
  | some p =>
    obtain ⟨c, h4, h5, h6, h7⟩ := h3
    have lt := World.block_lt_of_cell? _ _ h5
    have ltc := World.block_lt_of_cell? _ _ h7
    refine ⟨?_, ?_, c, h4, ?_, ?_, ?_⟩
    · rw [hb.frozen (p := ⟨b, 0, none⟩) lt]; exact h1
    · rw [hb.frozen (p := ⟨b, 1, none⟩) lt]; exact h2
    · rw [hb.cell (p := ⟨b, 0, none⟩) lt]; exact h5
    · rw [hb.cell (p := ⟨b, 1, none⟩) lt]; exact h6
    · rw [hb.cell (p := ⟨c, 0, none⟩) ltc]; exact h7

theorem new_any (w : World) : Calls Try.prog 7 #[] w fun e w' => e = .returned (.pointer (some ⟨w.heap.size, 0, none⟩)) ∧ w' = w.alloc (.cells #[.nilIface, .string ByteArray.empty] 37) := by
  go_enter Try.func7, Try.ntmps7
  go_wp2
  go_ret
  exact ⟨rfl, rfl⟩

theorem FW_new (w : World) : FW (w.alloc (.cells #[.nilIface, .string ByteArray.empty] 37)) w.heap.size none := by
  refine ⟨by simp, by simp, by simp, by simp⟩

/-- 'add(nil, h)' turns nothing. -/
theorem add_nil (b : Nat) (h : ByteArray) (w : World) : Calls Try.prog 15 #[.pointer (some ⟨b, 0, none⟩), .nilIface, .string h] w fun e w' => e = .returned (.tuple #[]) ∧ w' = w := by
  go_enter Try.func15, Try.ntmps15
  go_wp2
  go_end0
  exact ⟨rfl, rfl⟩

theorem add_first (b : Nat) (v : Value) (h g : ByteArray) (w : World) (f0 : w.frozen? ⟨b, 0, none⟩ = false) (f1 : w.frozen? ⟨b, 1, none⟩ = false) (c0 : w.cell? ⟨b, 0, none⟩ = some .nilIface) (c1 : w.cell? ⟨b, 1, none⟩ = some (.string g)) :
    Calls Try.prog 15 #[.pointer (some ⟨b, 0, none⟩), .iface 40 v, .string h] w fun e w' => e = .returned (.tuple #[]) ∧ w' = (w.setCell ⟨b, 0, none⟩ (.iface 40 v)).setCell ⟨b, 1, none⟩ (.string h) := by
  go_enter Try.func15, Try.ntmps15
  go_wp2
  go_end0
  exact ⟨rfl, rfl⟩

theorem add_less (b : Nat) (v u : Value) (h g : ByteArray) (w : World) (f0 : w.frozen? ⟨b, 0, none⟩ = false) (f1 : w.frozen? ⟨b, 1, none⟩ = false) (c0 : w.cell? ⟨b, 0, none⟩ = some (.iface 40 u)) (c1 : w.cell? ⟨b, 1, none⟩ = some (.string g)) (hl : Op.bytesLess h.toList g.toList = true) :
    Calls Try.prog 15 #[.pointer (some ⟨b, 0, none⟩), .iface 40 v, .string h] w fun e w' => e = .returned (.tuple #[]) ∧ w' = (w.setCell ⟨b, 0, none⟩ (.iface 40 v)).setCell ⟨b, 1, none⟩ (.string h) := by
  go_enter Try.func15, Try.ntmps15
  go_wp2
  go_end0
  exact ⟨rfl, rfl⟩

theorem add_not (b : Nat) (v u : Value) (h g : ByteArray) (w : World) (c0 : w.cell? ⟨b, 0, none⟩ = some (.iface 40 u)) (c1 : w.cell? ⟨b, 1, none⟩ = some (.string g)) (hl : Op.bytesLess h.toList g.toList = false) :
    Calls Try.prog 15 #[.pointer (some ⟨b, 0, none⟩), .iface 40 v, .string h] w fun e w' => e = .returned (.tuple #[]) ∧ w' = w := by
  go_enter Try.func15, Try.ntmps15
  go_wp2
  go_end0
  exact ⟨rfl, rfl⟩

theorem grown_setCell (w : World) (b o : Nat) (v : Value) : w.grownBy (w.setCell ⟨b, o, none⟩ v) (some b) :=
  ⟨rfl, rfl, rfl, by simp, fun k _ hk => Below.heap_setCell _ _ _ _ (fun e => hk (by rw [e]))⟩

theorem FW_stored {w : World} {b : Nat} {u0 u1 : Value} {j c : Nat} {h : ByteArray} (f0 : w.frozen? ⟨b, 0, none⟩ = false) (f1 : w.frozen? ⟨b, 1, none⟩ = false) (c0 : w.cell? ⟨b, 0, none⟩ = some u0) (c1 : w.cell? ⟨b, 1, none⟩ = some u1)
    (hc : w.cell? ⟨c, 0, none⟩ = some (.int .i64 j)) (hne : c ≠ b) : FW ((w.setCell ⟨b, 0, none⟩ (.iface 40 (.pointer (some ⟨c, 0, none⟩)))).setCell ⟨b, 1, none⟩ (.string h)) b (some (j, h)) := by
  have n01 : (⟨b, 1, none⟩ : Addr) ≠ ⟨b, 0, none⟩ := by simp
  have n10 : (⟨b, 0, none⟩ : Addr) ≠ ⟨b, 1, none⟩ := by simp
  have nc0 : (⟨b, 0, none⟩ : Addr) ≠ ⟨c, 0, none⟩ := fun e => hne (congrArg Addr.block e).symm
  have nc1 : (⟨b, 1, none⟩ : Addr) ≠ ⟨c, 0, none⟩ := by simp
  refine ⟨by simpa using f0, by simpa using f1, c, hne, ?_, ?_, ?_⟩
  · rw [World.cell?_setCell_other _ _ _ _ n01]; exact World.cell?_setCell_same _ _ _ c0
  · exact World.cell?_setCell_same _ _ _ (by rw [World.cell?_setCell_other _ _ _ _ n10]; exact c1)
  · rw [World.cell?_setCell_other _ _ _ _ nc1, World.cell?_setCell_other _ _ _ _ nc0]; exact hc

/-- 'add' of a refusal: the plain 'put'. -/
theorem add_put (b : Nat) (st : St) (c j : Nat) (h : ByteArray) (w : World) (hf : FW w b st) (hc : w.cell? ⟨c, 0, none⟩ = some (.int .i64 j)) (hne : c ≠ b) :
    Calls Try.prog 15 #[.pointer (some ⟨b, 0, none⟩), .iface 40 (.pointer (some ⟨c, 0, none⟩)), .string h] w fun e w' => e = .returned (.tuple #[]) ∧ FW w' b (put st j h) ∧ w.grownBy w' (some b) := by
  obtain ⟨f0, f1, hk⟩ := hf
  cases st with
  | none =>
    refine (add_first b _ h _ w f0 f1 hk.1 hk.2).mono ?_
    rintro e w' ⟨rfl, rfl⟩
    exact ⟨rfl, FW_stored f0 f1 hk.1 hk.2 hc hne, (grown_setCell _ _ _ _).trans (grown_setCell _ _ _ _)⟩
  | some p =>
    obtain ⟨i, g⟩ := p
    have hk' := hk
    obtain ⟨c', h1, h2, h3, h4⟩ := hk
    cases hl : Op.bytesLess h.toList g.toList with
    | true =>
      refine (add_less b _ _ h g w f0 f1 h2 h3 hl).mono ?_
      rintro e w' ⟨rfl, rfl⟩
      have e1 : put (some (i, g)) j h = some (j, h) := by simp [put, lt, hl]
      rw [e1]
      exact ⟨rfl, FW_stored f0 f1 h2 h3 hc hne, (grown_setCell _ _ _ _).trans (grown_setCell _ _ _ _)⟩
    | false =>
      refine (add_not b _ _ h g w h2 h3 hl).mono ?_
      rintro e w' ⟨rfl, rfl⟩
      have e1 : put (some (i, g)) j h = some (i, g) := by simp [put, lt, hl]
      rw [e1]
      exact ⟨rfl, ⟨f0, f1, hk'⟩, ⟨rfl, rfl, rfl, Nat.le_refl _, fun _ _ _ => rfl⟩⟩

/-- 'ZZaddRefusal': refused: a new error is put; else nothing. -/
theorem addRefusal (b : Nat) (st : St) (k : Nat) (r : Bool) (h : ByteArray) (w : World) (hf : FW w b st) (hb : b < w.heap.size) :
    Calls Try.prog 13 #[.pointer (some ⟨b, 0, none⟩), .bool r, .int .i64 k, .string h] w fun e w' => e = .returned (.tuple #[]) ∧ FW w' b (if r then put st k h else st) ∧ w.grownBy w' (some b) := by
  cases r with
  | false =>
    go_enter Try.func13, Try.ntmps13
    go_wp2_with (go_at_call 15; refine (add_nil _ _ _).mono ?_; rintro e w' ⟨rfl, rfl⟩)
    go_end0
    exact ⟨rfl, hf, ⟨rfl, rfl, rfl, Nat.le_refl _, fun _ _ _ => rfl⟩⟩
  | true =>
    have hf' : FW (w.alloc (.cells #[.int .i64 k, .nilIface] 43)) b st := hf.below ((Below.refl _ _).alloc (Nat.le_refl _) _)
    have hcc : (w.alloc (.cells #[.int .i64 k, .nilIface] 43)).cell? ⟨w.heap.size, 0, none⟩ = some (.int .i64 k) := by simp
    have HF : Hid (FW (w.alloc (.cells #[.int .i64 k, .nilIface] 43)) b st) := hf'
    have HC : Hid ((w.alloc (.cells #[.int .i64 k, .nilIface] 43)).cell? ⟨w.heap.size, 0, none⟩ = some (.int .i64 k)) := hcc
    clear hf hf' hcc
    go_enter Try.func13, Try.ntmps13
    go_wp2_with (go_at_call 15; refine (add_put b st w.heap.size k h _ HF.out HC.out (by omega)).mono ?_; rintro e w' ⟨rfl, h1, h2⟩)
    refine bodyPost_ret (results_none rfl _ _ _) rfl ?_
    exact ⟨rfl, h1, (World.grownBy_alloc _ _ _).trans h2⟩

theorem FW.not_int {w : World} {b : Nat} {st : St} (h : FW w b st) {c : Nat} {k : IntKind} {n : Int} (hc : w.cell? ⟨c, 0, none⟩ = some (.int k n)) : c ≠ b := by
  rintro rfl
  obtain ⟨_, _, h3⟩ := h
  cases st with
  | none => rw [h3.1] at hc; cases hc
  | some p => obtain ⟨_, _, h5, _⟩ := h3; rw [h5] at hc; cases hc

theorem FW.drew {w : World} {b : Nat} {st : St} (h : FW w b st) : FW w.drew b st := h.below ((Below.refl _ _).drew)

theorem grown_drew (w : World) (r : Option Nat) : w.grownBy w.drew r := ⟨rfl, rfl, rfl, Nat.le_refl _, fun _ _ _ => rfl⟩

/-- 'ZZaddKept'. -/
theorem addKept (b b' : Nat) (st st' : St) (w : World) (hf : FW w b st) (hf' : FW w b' st') :
    Calls Try.prog 12 #[.pointer (some ⟨b, 0, none⟩), .pointer (some ⟨b', 0, none⟩)] w fun e w' => e = .returned (.tuple #[]) ∧ FW w' b (merge st st') ∧ w.grownBy w' (some b) := by
  obtain ⟨g0, g1, hk⟩ := hf'
  cases st' with
  | none =>
    obtain ⟨c0, c1⟩ := hk
    have HF : Hid (FW w b st) := hf
    clear hf
    go_enter Try.func12, Try.ntmps12
    go_region_with (go_at_call 15; refine (add_nil _ _ _).mono ?_; rintro e w' ⟨rfl, rfl⟩)
    all_goals
      go_end0
      exact ⟨rfl, HF.out.drew, grown_drew _ _⟩
  | some p =>
    obtain ⟨j, g⟩ := p
    obtain ⟨c, hcb, c0, c1, cc⟩ := hk
    have hne := hf.not_int cc
    have hfd := hf.drew
    have HF : Hid (FW w.drew b st) := hfd
    have HC : Hid (w.drew.cell? ⟨c, 0, none⟩ = some (.int .i64 j)) := cc
    clear hf hfd cc
    go_enter Try.func12, Try.ntmps12
    go_region_with (go_at_call 15; refine (add_put b st c j g _ HF.out HC.out hne).mono ?_; rintro e w' ⟨rfl, h1, h2⟩)
    all_goals
      go_end0
      exact ⟨rfl, h1, (grown_drew _ _).trans h2⟩

theorem assert_own (v : Value) (w : World) : (Instr.typeAssert (.iface 40 v) 35 40 true).run Try.prog w = .ok (.tuple #[v, .bool true]) w := by kernel_rfl

/-- 'ZZfirstWrongHeld': what is kept, as three values. -/
theorem held_any (b : Nat) (st : St) (w : World) (hf : FW w b st) :
    Calls Try.prog 9 #[.pointer (some ⟨b, 0, none⟩)] w fun e w' => e = ans st ∧ ∃ n, w' = w.drewN n := by
  obtain ⟨g0, g1, hk⟩ := hf
  cases st with
  | none =>
    obtain ⟨c0, c1⟩ := hk
    go_enter Try.func9, Try.ntmps9
    go_wp2
    go_quiet (fail)
    go_wp2
    go_ret3
    exact ⟨rfl, _, rfl⟩
  | some p =>
    obtain ⟨j, g⟩ := p
    obtain ⟨c, hcb, c0, c1, cc⟩ := hk
    go_enter Try.func9, Try.ntmps9
    have hta := assert_own
    go_wp2
    go_quiet (fail)
    go_wp2
    go_ret3
    exact ⟨rfl, _, rfl⟩

end Go.Proofs.Qxb6612438a

import Derived.Test.Qxb6612374aReaders
namespace Go.Proofs.Qxb6612374a
open Go.RowKit Plain
set_option linter.unusedVariables false
set_option linter.unusedSimpArgs false

theorem zcover {one : Bool} {be bo bl bw : Nat} (B pages n : Nat) (w : World) (hp : (pages : Int) ≤ 2134900736) (hn : Hid (n = (pages + 32575) / 32576)) (h1 : one = true → 1 ≤ n) (hF : Fresh one B w be bo bl bw) :
    Calls Try.prog 14 #[.pointer (some ⟨be, 0, none⟩), .int .u64 pages] w fun e w' => e = .returned (.tuple #[]) ∧ Below B w w' ∧ ∃ L, Cov one w' w' be bo bl bw n (top n + 1) 0 L := by
  obtain ⟨hE, hsh, hf, hM, hB1, hB2⟩ := hF
  have H := hide (cover_any (sh := .nilIface) B pages n w hp hn h1 hE hsh hf hM hB1 hB2)
  clear hE hsh hf hM hB1 hB2 h1 hn
  go_enter Try.func14, Try.ntmps14
  go_wp2_with fail
  refine H.out.mono ?_
  rintro e w' ⟨rfl, hb, hC⟩
  have HB := hide hb
  have HC := hide hC
  clear hb hC
  go_wp2_with fail
  go_end0
  exact ⟨rfl, HB.out, HC.out⟩

theorem zshape (be : Nat) (v : Value) (w : World) (h : w.cell? ⟨be, 1, none⟩ = some v) (hv : ∃ a n c, v = .slice a n c) :
    Calls Try.prog 16 #[.pointer (some ⟨be, 0, none⟩)] w fun e w' => e = .returned v ∧ w' = w := by
  obtain ⟨a, n, c, rfl⟩ := hv
  go_enter Try.func16, Try.ntmps16
  go_wp2
  go_ret
  exact ⟨rfl, rfl⟩

theorem zwrittenIn {one : Bool} {be bo bl bw : Nat} {L : List (Nat × Nat)} (l i : Nat) (w : World) (hE : Ed one w be bo bl bw) (hM : WrMap w bw L) (hl : l ≤ 2) (hi : i ≤ 65536) (hin : (l, i) ∈ L) :
    Calls Try.prog 17 #[.pointer (some ⟨be, 0, none⟩), .int .i64 l, .int .i64 i] w fun e w' => e = .returned (.tuple #[.bool true, .int .u64 0, .int .u32 0]) ∧ w.grownBy w' none := by
  have c3 := hE.c3
  have k1 := hM.lookIn hl hi hin
  clear hE hM hin hi
  go_enter Try.func17, Try.ntmps17
  go_wp2
  go_quiet (fail)
  go_wp2
  go_ret3
  exact ⟨rfl, (World.grownBy_alloc _ _ _).trans (grown_drewN _ _ _)⟩

theorem zwrittenOut {one : Bool} {be bo bl bw : Nat} {L : List (Nat × Nat)} (l i : Nat) (w : World) (hE : Ed one w be bo bl bw) (hM : WrMap w bw L) (hl : l ≤ 2) (hi : i ≤ 65536) (hin : (l, i) ∉ L) :
    Calls Try.prog 17 #[.pointer (some ⟨be, 0, none⟩), .int .i64 l, .int .i64 i] w fun e w' => e = .returned (.tuple #[.bool false, .int .u64 0, .int .u32 0]) ∧ w.grownBy w' none := by
  have c3 := hE.c3
  have k1 := hM.lookOut hl hi hin
  clear hE hM hin hi
  go_enter Try.func17, Try.ntmps17
  go_wp2
  go_quiet (fail)
  go_wp2
  go_ret3
  exact ⟨rfl, (World.grownBy_alloc _ _ _).trans (grown_drewN _ _ _)⟩

theorem zcount {one : Bool} {be bo bl bw : Nat} {L : List (Nat × Nat)} (w : World) (hE : Ed one w be bo bl bw) (hM : WrMap w bw L) :
    Calls Try.prog 18 #[.pointer (some ⟨be, 0, none⟩)] w fun e w' => e = .returned (.int .i64 L.length) ∧ w' = w := by
  have c3 := hE.c3
  obtain ⟨_, _, D, ho, _, hs, _⟩ := hM
  rw [← hs]
  clear hE hs
  go_enter Try.func18, Try.ntmps18
  go_wp2_with (at_len; refine wpList_len_own _ rfl _ 54 rfl 63 60 Try.underlying54 refR bw L.length D rfl ho ?_)
  go_ret
  exact ⟨rfl, rfl⟩

theorem zreleased {one : Bool} {be bo bl bw : Nat} (w : World) (hE : Ed one w be bo bl bw) :
    Calls Try.prog 19 #[.pointer (some ⟨be, 0, none⟩)] w fun e w' => e = .returned (.int .i64 0) ∧ w' = w := by
  have c4 := hE.c4
  clear hE
  go_enter Try.func19, Try.ntmps19
  go_wp2
  go_ret
  exact ⟨rfl, rfl⟩

theorem zleaves {one : Bool} {be bo bl bw : Nat} (w : World) (hE : Ed one w be bo bl bw) :
    Calls Try.prog 20 #[.pointer (some ⟨be, 0, none⟩)] w fun e w' => e = .returned (.int .i64 0) ∧ w' = w := by
  have c2 := hE.c2
  have ho : w.ownsMap Try.prog 3 (refR) bl 0 (.map []) := ⟨#[], 0, hE.leaves, ⟨by simp, MapKept.stamped_empty 0, by simp⟩, Nat.le_refl _, rfl⟩
  clear hE
  go_enter Try.func20, Try.ntmps20
  go_wp2_with (at_len; refine wpList_len_own _ rfl _ 53 rfl 3 22 Try.underlying53 refR bl 0 (.map []) rfl ho ?_)
  go_ret
  exact ⟨rfl, rfl⟩

end Go.Proofs.Qxb6612374a

/-
  big.Int's SetInt64 and Sign, at a zero Int in a row (seat b6615116a).
-/
import Derived.Test.Qxb6615116aRows
import Derived.WalkKit
import Derived.WalkSpells
import Derived.WalkLawsBesides
import Derived.Below
import Derived.Deep.MidRow
namespace Go.Proofs.Qxb6615116a
open Go.RowKit

theorem run_make48 (w : World) : (Instr.makeSlice 48 (.int .i64 1) (.int .i64 1)).run Try.prog w = .ok (.slice (some ⟨w.heap.size, 0, none⟩) 1 1) (w.alloc (.cells #[.int .u64 0] 81)) := by kernel_rfl

/-- nat.make(1) upon a nil nat. -/
theorem make1 (w : World) : Calls Try.prog 52 #[.slice none 0 0, .int .i64 1] w fun e w' => e = .returned (.slice (some ⟨w.heap.size, 0, none⟩) 1 1) ∧ w' = w.alloc (.cells #[.int .u64 0] 81) := by
  have hm := run_make48
  go_enter Try.func52, Try.ntmps52
  go_wp2_with fail
  go_ret
  exact ⟨rfl, rfl⟩

/-- setWord upon a nil nat: nil at 0, else one new word. -/
theorem setWord_any (x : Int) (h0 : 0 ≤ x) (h1 : x ≤ 18446744073709551615) (w : World) : Calls Try.prog 51 #[.slice none 0 0, .int .u64 x] w fun e w' => (∃ a l c, e = .returned (.slice a l c) ∧ (l = 0 ↔ x = 0)) ∧ Below w.heap.size w w' := by
  by_cases hx : x = 0
  · subst hx
    go_enter Try.func51, Try.ntmps51
    go_wp2_with fail
    go_ret
    exact ⟨⟨_, _, _, rfl, by simp⟩, Below.refl _ _⟩
  · go_enter Try.func51, Try.ntmps51
    go_wp2_with (go_at_call 52; refine (make1 _).mono ?_; rintro e w' ⟨rfl, rfl⟩)
    go_ret
    exact ⟨⟨_, _, _, rfl, by simp [hx]⟩, (Below.refl _ _).alloc (Nat.le_refl _) _⟩

theorem setU_any (x : Int) (h0 : 0 ≤ x) (h1 : x ≤ 18446744073709551615) (w : World) : Calls Try.prog 31 #[.slice none 0 0, .int .u64 x] w fun e w' => (∃ a l c, e = .returned (.slice a l c) ∧ (l = 0 ↔ x = 0)) ∧ Below w.heap.size w w' := by
  go_enter Try.func31, Try.ntmps31
  go_wp2_with fail
  refine (setWord_any x h0 h1 w).mono ?_
  rintro e w' ⟨⟨a, l, c, rfl, hl⟩, hb⟩
  go_wp2_with fail
  go_ret
  exact ⟨⟨_, _, _, rfl, hl⟩, hb⟩

/-- The Int at ⟨b, o⟩ is more than nought just when x is. -/
def BigAt (w : World) (b o : Nat) (x : Int) : Prop := ∃ neg a l c, w.cell? ⟨b, o, none⟩ = some (.bool neg) ∧ w.cell? ⟨b, o + 1, none⟩ = some (.slice a l c) ∧ ((decide (l ≠ 0) && !neg) = decide (0 < x))

/-- Sign, against nought. -/
theorem sign_any (b o : Nat) (x : Int) (w : World) (h : BigAt w b o x) : Calls Try.prog 19 #[.pointer (some ⟨b, o, none⟩)] w fun e w' => (∃ s, e = .returned (.int .i64 s) ∧ decide (0 < s) = decide (0 < x)) ∧ w' = w := by
  obtain ⟨neg, a, l, c, h1, h2, h3⟩ := h
  rw [← h3]
  clear h3
  by_cases hl : l = 0
  · subst hl
    go_enter Try.func19, Try.ntmps19
    go_wp2_with fail
    go_ret
    exact ⟨⟨_, rfl, by simp⟩, rfl⟩
  · have hl1 : ¬ (l : Int) = 0 := by omega
    cases neg
    all_goals
      go_enter Try.func19, Try.ntmps19
      go_wp2_with fail
      go_ret
      exact ⟨⟨_, rfl, by simp [hl]⟩, rfl⟩

/-- What SetInt64 leaves. -/
def Laid (w w' : World) (b o : Nat) (x : Int) : Prop :=
  Below b w w' ∧ BigAt w' b o x ∧ (∀ o', o' ≠ o → o' ≠ o + 1 → w'.cell? ⟨b, o', none⟩ = w.cell? ⟨b, o', none⟩) ∧ (∀ o', w'.frozen? ⟨b, o', none⟩ = w.frozen? ⟨b, o', none⟩) ∧ w.heap.size ≤ w'.heap.size

theorem laid_mk {w w1 : World} {b o : Nat} {x : Int} {neg : Bool} {a : Option Addr} {l c : Nat} (hb : b < w.heap.size) (h : Below w.heap.size w w1) (d0 : (w1.cell? ⟨b, o, none⟩).isSome = true) (d1 : (w1.cell? ⟨b, o + 1, none⟩).isSome = true) (hx : (decide (l ≠ 0) && !neg) = decide (0 < x)) :
    Laid w ((w1.setCell ⟨b, o + 1, none⟩ (.slice a l c)).setCell ⟨b, o, none⟩ (.bool neg)) b o x := by
  refine ⟨((h.mono (Nat.le_of_lt hb)).setCell (p := ⟨b, o + 1, none⟩) (Nat.le_refl _) _).setCell (p := ⟨b, o, none⟩) (Nat.le_refl _) _, ⟨neg, a, l, c, ?_, ?_, hx⟩, fun o' h0 h1 => ?_, fun o' => ?_, ?_⟩
  · obtain ⟨v, hv⟩ := Option.isSome_iff_exists.1 d0
    have hne : (⟨b, o + 1, none⟩ : Addr) ≠ ⟨b, o, none⟩ := by simp
    exact World.cell?_setCell_same _ _ _ ((World.cell?_setCell_other _ _ _ _ hne).trans hv)
  · obtain ⟨v, hv⟩ := Option.isSome_iff_exists.1 d1
    have hne : (⟨b, o, none⟩ : Addr) ≠ ⟨b, o + 1, none⟩ := by simp
    exact (World.cell?_setCell_other _ _ _ _ hne).trans (World.cell?_setCell_same _ _ _ hv)
  · have e0 : (⟨b, o, none⟩ : Addr) ≠ ⟨b, o', none⟩ := by simp
    have e1 : (⟨b, o + 1, none⟩ : Addr) ≠ ⟨b, o', none⟩ := by simp
    exact ((World.cell?_setCell_other _ _ _ _ e0).trans (World.cell?_setCell_other _ _ _ _ e1)).trans (h.cell (p := ⟨b, o', none⟩) hb)
  · simp only [World.frozen?_setCell]
    exact h.frozen (p := ⟨b, o', none⟩) hb
  · exact Nat.le_trans h.size (by simp [World.setCell])

/-- SetInt64 upon a zero Int. -/
theorem setInt_any (b o : Nat) (x : Int) (w : World) (h0 : -9223372036854775808 ≤ x) (h1 : x ≤ 9223372036854775807) (c0 : w.cell? ⟨b, o, none⟩ = some (.bool false)) (c1 : w.cell? ⟨b, o + 1, none⟩ = some (.slice none 0 0)) (f0 : w.frozen? ⟨b, o, none⟩ = false) (f1 : w.frozen? ⟨b, o + 1, none⟩ = false) :
    Calls Try.prog 18 #[.pointer (some ⟨b, o, none⟩), .int .i64 x] w fun e w' => (∃ v, e = .returned v) ∧ Laid w w' b o x := by
  have hb := World.block_lt_of_cell? _ _ c0
  simp only at hb
  by_cases hx : x < 0
  · go_enter Try.func18, Try.ntmps18
    go_wp2_with fail
    have hy : 0 ≤ IntKind.u64.wrap (wrap64 (-x)) ∧ IntKind.u64.wrap (wrap64 (-x)) ≤ 18446744073709551615 := by rw [IntKind.wrap_u64]; omega
    generalize IntKind.u64.wrap (wrap64 (-x)) = y at *
    refine (setU_any y hy.1 hy.2 w).mono ?_
    rintro e w1 ⟨⟨a, l, c, rfl, hl⟩, hb1⟩
    have d0 : w1.cell? ⟨b, o, none⟩ = some (.bool false) := by rw [hb1.cell hb]; exact c0
    have d1 : w1.cell? ⟨b, o + 1, none⟩ = some (.slice none 0 0) := by rw [hb1.cell hb]; exact c1
    have g0 : w1.frozen? ⟨b, o, none⟩ = false := by rw [hb1.frozen hb]; exact f0
    have g1 : w1.frozen? ⟨b, o + 1, none⟩ = false := by rw [hb1.frozen hb]; exact f1
    go_wp2_with fail
    go_ret
    exact ⟨⟨_, rfl⟩, laid_mk hb hb1 (by rw [d0]; rfl) (by rw [d1]; rfl) (by simp; omega)⟩
  · go_enter Try.func18, Try.ntmps18
    go_wp2_with fail
    refine (setU_any x (by omega) (by omega) w).mono ?_
    rintro e w1 ⟨⟨a, l, c, rfl, hl⟩, hb1⟩
    have d0 : w1.cell? ⟨b, o, none⟩ = some (.bool false) := by rw [hb1.cell hb]; exact c0
    have d1 : w1.cell? ⟨b, o + 1, none⟩ = some (.slice none 0 0) := by rw [hb1.cell hb]; exact c1
    have g0 : w1.frozen? ⟨b, o, none⟩ = false := by rw [hb1.frozen hb]; exact f0
    have g1 : w1.frozen? ⟨b, o + 1, none⟩ = false := by rw [hb1.frozen hb]; exact f1
    go_wp2_with fail
    go_ret
    refine ⟨⟨_, rfl⟩, laid_mk hb hb1 (by rw [d0]; rfl) (by rw [d1]; rfl) ?_⟩
    by_cases h : x = 0
    · simp [h, hl]
    · have : 0 < x := by omega
      simp [this, hl, h]

end Go.Proofs.Qxb6615116a

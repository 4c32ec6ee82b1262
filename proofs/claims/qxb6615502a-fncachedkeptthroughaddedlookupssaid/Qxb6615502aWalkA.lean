/-
  The contracts of the callees of FnCachedKeptThroughAddedLookups (seat b6615502a): wide.add, moments.add, math.Round at one number, Stats.add.
-/
import Derived.Test.Qxb6615502aRows
import Derived.Test.Qxb6615502aFloat
import Derived.WalkKit
import Derived.ProofKit
import Derived.Laws.Externs
import Derived.Deep.RegionWith
import Derived.Deep.DrawnRows
namespace Go.Proofs.Qxb6615502a.Cached
attribute [local go_sem ↓] Go.wp_at_zero Go.wp_at_succ
open Go.ChangeShapes Go.WideShapes Go.ChangeAt Go.RowKit

/-- The model's entry for math/bits.Add64. -/
def addE : Array Value → Sem Value := fun args => do
  let (x, y, c) ← Extern.MathBitsCarry.three "Add64" args
  pure (Extern.MathBitsCarry.pair ((x + y + c) % Extern.MathBitsCarry.m64) ((x + y + c) / Extern.MathBitsCarry.m64))

def addS (x y : Int) : Int := (((x.toNat + y.toNat) % 18446744073709551616 : Nat) : Int)
def addC (x y : Int) : Int := (((x.toNat + y.toNat) / 18446744073709551616 : Nat) : Int)

theorem run_addE (x y : Int) (w : World) : (addE #[.int .u64 x, .int .u64 y, .int .u64 0]).run Try.prog w = .ok (.tuple #[.int .u64 (addS x y), .int .u64 (addC x y)]) w := rfl

theorem run_add (x y : Int) (w : World) :
    (callFunc 49 #[.int .u64 x, .int .u64 y, .int .u64 0]).run Try.prog w = .ok (.value (.tuple #[.int .u64 (addS x y), .int .u64 (addC x y)])) w := by
  rw [run_callFunc_extern Try.func49 (by kernel_rfl) (by kernel_rfl) (by kernel_rfl) (e := addE) (by kernel_rfl), run_addE]
  rfl

attribute [local go_sem] run_add

theorem wide_any (w : World) (b off : Nat) (hi lo x y : Int) (h0 : w.cell? ⟨b, off, none⟩ = some (.int .u64 x)) (h1 : w.cell? ⟨b, off+1, none⟩ = some (.int .u64 y))
   (f0 : w.frozen? ⟨b, off, none⟩ = false) (f1 : w.frozen? ⟨b, off+1, none⟩ = false) :
    Calls Try.prog 44 #[.pointer (some ⟨b, off, none⟩), .int .u64 hi, .int .u64 lo] w fun e w' => e = .returned (.tuple #[]) ∧ ∃ p q, w' = (w.setCell ⟨b, off+1, none⟩ (.int .u64 p)).setCell ⟨b, off, none⟩ (.int .u64 q) := by
  go_enter Try.func44, Try.ntmps44
  go_wp2
  go_end0
  exact ⟨rfl, _, _, rfl⟩

theorem mul_any (w : World) (x y: Int) :
    Calls Try.prog 50 #[.int .u64 x, .int .u64 y] w fun e w' => (∃ hi lo, e = .returned (.tuple #[.int .u64 hi, .int .u64 lo])) ∧ w' = w := by
  go_enter Try.func50, Try.ntmps50
  go_wp2
  go_ret2
  exact ⟨⟨_, _, rfl⟩, rfl⟩

theorem mom_any (w : World) (b off : Nat) (x n0 n1 n2 n3 n4 : Int) (h0 : w.cell? ⟨b, off, none⟩ = some (.int .u64 n0)) (h1 : w.cell? ⟨b, off+1, none⟩ = some (.int .u64 n1))
    (h2 : w.cell? ⟨b, off+1+1, none⟩ = some (.int .u64 n2)) (h3 : w.cell? ⟨b, off+3, none⟩ = some (.int .u64 n3)) (h4 : w.cell? ⟨b, off+3+1, none⟩ = some (.int .u64 n4))
   (f0 : w.frozen? ⟨b, off, none⟩ = false) (f1 : w.frozen? ⟨b, off+1, none⟩ = false) (f2 : w.frozen? ⟨b, off+1+1, none⟩ = false) (f3 : w.frozen? ⟨b, off+3, none⟩ = false) (f4 : w.frozen? ⟨b, off+3+1, none⟩ = false) :
    Calls Try.prog 45 #[.pointer (some ⟨b, off, none⟩), .int .u64 x] w fun e w' => e = .returned (.tuple #[]) ∧ ∃ q0 q1 q2 q3 q4, w' = (((((w.setCell ⟨b, off, none⟩ (.int .u64 q0)).setCell ⟨b, off+1+1, none⟩ (.int .u64 q2)).setCell ⟨b, off+1, none⟩ (.int .u64 q1)).setCell ⟨b, off+3+1, none⟩ (.int .u64 q4)).setCell ⟨b, off+3, none⟩ (.int .u64 q3)).drew := by
  go_enter Try.func45, Try.ntmps45
  go_wp2_with fail
  refine (wide_any _ _ _ _ _ n1 n2 ?_ ?_ ?_ ?_).mono ?_
  · go_simp
  · go_simp
  · go_simp
  · go_simp
  rintro e w' ⟨rfl, p, q, rfl⟩
  go_wp2_with fail
  go_region_with (first
    | (go_at_call 50; refine (mul_any _ _ _).mono ?_; rintro e w' ⟨⟨hi, lo, rfl⟩, rfl⟩)
    | (go_at_call 44; refine (wide_any _ _ _ _ _ n3 n4 ?_ ?_ ?_ ?_).mono ?_; (go_simp); (go_simp); (go_simp); (go_simp); rintro e w' ⟨rfl, p, q, rfl⟩))
  all_goals (go_end0; exact ⟨rfl, _, _, _, _, _, rfl⟩)

/-- Cells 'off' to 'off + n' of block b hold uint64s and may be written. -/
def Row (b off n : Nat) (w : World) : Prop := ∀ i, off ≤ i → i < off + n → (∃ x, w.cell? ⟨b, i, none⟩ = some (.int .u64 x)) ∧ w.frozen? ⟨b, i, none⟩ = false

/-- From w to w' nothing has turned but those cells, which hold uint64s. -/
structure Upd (b off n : Nat) (w w' : World) : Prop where
  below : Below b w w'
  froz : ∀ o, w'.frozen? ⟨b, o, none⟩ = w.frozen? ⟨b, o, none⟩
  cell : ∀ o, (o < off ∨ off + n ≤ o) → w'.cell? ⟨b, o, none⟩ = w.cell? ⟨b, o, none⟩
  row : ∀ i, off ≤ i → i < off + n → ∃ x, w'.cell? ⟨b, i, none⟩ = some (.int .u64 x)

/-- One store of a uint64 into a cell of the row. -/
theorem Upd.setCell {b off n : Nat} {w w' : World} (h : Upd b off n w w') (i : Nat) (h0 : off ≤ i) (h1 : i < off + n) (x : Int) : Upd b off n w (w'.setCell ⟨b, i, none⟩ (.int .u64 x)) where
  below := h.below.setCell (Nat.le_refl _) _
  froz o := by rw [World.frozen?_setCell]; exact h.froz o
  cell o ho := by
    rw [World.cell?_setCell_other _ _ _ _ (by intro e; injection e; omega)]; exact h.cell o ho
  row j g0 g1 := by
    by_cases e : j = i
    · subst e
      obtain ⟨y, hy⟩ := h.row j g0 g1
      exact ⟨x, World.cell?_setCell_same _ _ _ hy⟩
    · rw [World.cell?_setCell_other _ _ _ _ (by intro e'; injection e'; omega)]; exact h.row j g0 g1

theorem Upd.drew {b off n : Nat} {w w' : World} (h : Upd b off n w w') : Upd b off n w w'.drew := ⟨h.below.drew, h.froz, h.cell, h.row⟩

theorem Upd.refl {b off n : Nat} {w : World} (h : Row b off n w) : Upd b off n w w := ⟨Below.refl _ _, fun _ => rfl, fun _ _ => rfl, fun i h0 h1 => (h i h0 h1).1⟩

theorem mom_upd (w : World) (b off : Nat) (x : Int) (h : Row b off 5 w) :
    Calls Try.prog 45 #[.pointer (some ⟨b, off, none⟩), .int .u64 x] w fun e w' => e = .returned (.tuple #[]) ∧ Upd b off 5 w w' := by
  obtain ⟨⟨n0, h0⟩, f0⟩ := h off (by omega) (by omega)
  obtain ⟨⟨n1, h1⟩, f1⟩ := h (off + 1) (by omega) (by omega)
  obtain ⟨⟨n2, h2⟩, f2⟩ := h (off + 1 + 1) (by omega) (by omega)
  obtain ⟨⟨n3, h3⟩, f3⟩ := h (off + 3) (by omega) (by omega)
  obtain ⟨⟨n4, h4⟩, f4⟩ := h (off + 3 + 1) (by omega) (by omega)
  refine (mom_any w b off x n0 n1 n2 n3 n4 h0 h1 h2 h3 h4 f0 f1 f2 f3 f4).mono ?_
  rintro e w' ⟨rfl, q0, q1, q2, q3, q4, rfl⟩
  exact ⟨rfl, ((((((Upd.refl h).setCell off (by omega) (by omega) q0).setCell (off + 1 + 1) (by omega) (by omega) q2).setCell (off + 1) (by omega) (by omega) q1).setCell (off + 3 + 1) (by omega) (by omega) q4).setCell (off + 3) (by omega) (by omega) q3).drew⟩

end Go.Proofs.Qxb6615502a.Cached

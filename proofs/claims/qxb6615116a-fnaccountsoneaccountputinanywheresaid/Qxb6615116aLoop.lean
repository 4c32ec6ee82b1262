/-
  The loop of Weights.accounts (seat b6615116a): the weighing accounts, in order of number.
-/
import Derived.Test.Qxb6615116aAcc
import Derived.Laws.AppendOwn
namespace Go.Proofs.Qxb6615116a
open Go.RowKit

def NamesAt (w : World) (a : Option Addr) (names : List ByteArray) : Prop := names = [] ∨ ∃ b off, a = some ⟨b, off, none⟩ ∧ ∀ i (h : i < names.length), w.cell? ⟨b, off + i, none⟩ = some (.string names[i])
theorem NamesAt.below {w w' : World} {a : Option Addr} {names : List ByteArray} (h : NamesAt w a names) (hb : Below w.heap.size w w') : NamesAt w' a names := by
  rcases h with h | ⟨b, off, rfl, h⟩
  · exact .inl h
  · exact .inr ⟨b, off, rfl, fun j hj => (hb.cell (World.block_lt_of_cell? _ _ (h j hj))).trans (h j hj)⟩

theorem below_grown {B : Nat} {w0 w w' : World} {row : Option Nat} (h : Below B w0 w) (hg : w.grownBy w' row) (hB : B ≤ w.heap.size) (hr : ∀ k, row = some k → B ≤ k) : Below B w0 w' :=
  h.trans ⟨hg.os, hg.tape, hg.output, hg.size, fun k hk => hg.block k (by omega) (fun e => by have := hr k e.symm; omega)⟩
theorem grown_below {w w' : World} (h : Below w.heap.size w w') : w.grownBy w' none := ⟨h.os, h.tape, h.output, h.size, fun k hk _ => h.block k hk⟩
theorem grown_set (w : World) (p : Addr) (v : Value) : w.grownBy (w.setCell p v) (some p.block) := by
  have h := (Below.refl p.block w).setCell (p := p) (Nat.le_refl _) v
  refine ⟨h.os, h.tape, h.output, h.size, fun k hk hne => ?_⟩
  have hne' : k ≠ p.block := fun e => hne (by rw [e])
  exact Below.heap_setCell _ _ _ _ hne'

/-- The weighing ones among the first n. -/
def picked (cols : List (List Int)) (n : Nat) : List Nat := (List.range n).filter (wgh cols)
theorem picked_succ (cols : List (List Int)) (n : Nat) : picked cols (n + 1) = picked cols n ++ (if wgh cols n then [n] else []) := by
  unfold picked
  rw [List.range_succ, List.filter_append]
  cases h : wgh cols n <;> simp [h]

def cellsOf (xs : List Nat) : List Value := xs.map fun (i : Nat) => Value.int .i64 (i : Int)

end Go.Proofs.Qxb6615116a

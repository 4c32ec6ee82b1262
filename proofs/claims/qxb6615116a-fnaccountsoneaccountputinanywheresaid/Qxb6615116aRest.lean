/-
  FnAccountsOneAccountPutInAnywhere, cut into its statements (seat b6615116a): what is left from statement n on.
-/
import Derived.Test.Qxb6615116aSaid
import Derived.Test.Qxb6615116aLawF4
namespace Go.Proofs.Qxb6615116a
open Go.RowKit

def sndN : Nat → Code → Code
  | 0, c => c
  | n + 1, .seq _ b => sndN n b
  | _, c => c
def fstN : Code → Code
  | .seq a _ => a
  | c => c
/-- What is left from statement n on. -/
noncomputable def rest (n : Nat) : Code := sndN n (Try.f3.body.getD .skip)
/-- Statement n. -/
noncomputable def item (n : Nat) : Code := fstN (rest n)

theorem rest_go {n : Nat} {Q : Exit → Act → World → Prop} {a : Act} {w : World} (h : rest n = Code.seq (item n) (rest (n + 1))) (hg : ∀ K : Act → World → Prop, (∀ a w, (rest (n + 1)).wp Try.prog Q a w → K a w) → (item n).wp Try.prog (Exit.then K Q) a w) : (rest n).wp Try.prog Q a w := by
  rw [h]
  exact wp_seq_k hg

end Go.Proofs.Qxb6615116a

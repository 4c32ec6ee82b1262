/-
  One step more of the lexical walk: a slice expression (seat b6614725a).
-/
import Derived.Test.Qxb6614725aAt
namespace Go.Loose
open Go
theorem at_slice {P : Program} {ops : Array Oper} {C : World → Prop} {o : Oper} {a : Act} {V : Value → Prop} (hw : Region.wanted o (yielded ops a.tmps) = true) (t : TypeId) (x : Operand) (lo hi mx : Option Operand) (ho : o.op = .slice t x lo hi mx)
    (u : Value) (l h m : Option Value) (hx : a.eval x = u) (hl : lo.map a.eval = l) (hh : hi.map a.eval = h) (hm : mx.map a.eval = m) (v : Value) (hr : ∀ w, (Instr.sliceAt t u l h m).run P w = .ok v w) (hV : V v) : At P ops C o V a :=
  at_same hw v (fun w _ => by unfold execOp; simp [ho, hx, hl, hh, hm, hr]) hV
end Go.Loose

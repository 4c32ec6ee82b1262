/-
  THE STEPS OF THE LEXICAL WALK (Qxb6614725aLoose), BY THE KIND OF OPERATION (seat b6614725a).
-/
import Derived.Test.Qxb6614725aLoose
import Derived.Test.Qxb6614725aFlt
import Derived.Deep.MidRow
import Derived.Below
import Derived.WalkKit
namespace Go.Loose
open Go Go.RowKit Go.Flt

section
variable {P : Program} {ops : Array Oper} {C : World → Prop} {o : Oper} {a : Act} {V : Value → Prop}

theorem at_skip (hw : Region.wanted o (yielded ops a.tmps) = false) (hV : V undef) : At P ops C o V a := by
  unfold At; rw [if_neg (by rw [hw]; exact Bool.false_ne_true)]; exact hV

/-- The operation runs here and now. -/
theorem at_run (hw : Region.wanted o (yielded ops a.tmps) = true) (h : ∀ w, C w → ∃ v w', (execOp a.eval o).run P w = .ok (.value v) w' ∧ V v ∧ C w') : At P ops C o V a := by
  unfold At; rw [if_pos hw]
  intro w hC
  obtain ⟨v, w', h1, h2, h3⟩ := h w hC
  rw [h1]
  exact ⟨h2, h3⟩

theorem at_same (hw : Region.wanted o (yielded ops a.tmps) = true) (v : Value) (h : ∀ w, C w → (execOp a.eval o).run P w = .ok (.value v) w) (hV : V v) : At P ops C o V a :=
  at_run hw fun w hC => ⟨v, w, h w hC, hV, hC⟩

theorem at_move (hw : Region.wanted o (yielded ops a.tmps) = true) (x : Operand) (ho : o.op = .move x) (hV : V (a.eval x)) : At P ops C o V a :=
  at_same hw _ (fun w _ => by unfold execOp; rw [ho]; rfl) hV
theorem at_assign (hw : Region.wanted o (yielded ops a.tmps) = true) (x : Operand) (ho : o.op = .assign x) (hV : V (a.eval x)) : At P ops C o V a :=
  at_same hw _ (fun w _ => by unfold execOp; rw [ho]; rfl) hV

/-- A whole struct is read. -/
theorem at_load (hw : Region.wanted o (yielded ops a.tmps) = true) (ty : TypeId) (x : Operand) (ho : o.op = .load ty x) (b off : Nat) (hx : a.eval x = .pointer (some ⟨b, off, none⟩)) (cs : List Value) (d : TypeDesc)
    (hu : P.underlying ty = some d) (hd : d.isRow = true) (hi : (P.info? ty).map (·.size) = some cs.length) (hc : ∀ w, C w → w.rangeAt b off cs) (hV : V (.agg cs.toArray)) : At P ops C o V a :=
  at_same hw _ (fun w hC => by
    unfold execOp
    simp only [ho, hx, Sem.run_bind, run_loadAt_mid w b off ty cs d (hc w hC) hu hd hi, Result.andThen_ok]
    rfl) hV

/-- A float's operation. -/
theorem at_arith (hw : Region.wanted o (yielded ops a.tmps) = true) (bop : BinOp) (t z : TypeId) (x y : Operand) (ho : o.op = .binOp bop t x y z) (ha : arith bop = true) (X Y : Nat) (hx : a.eval x = .float .f64 X) (hy : a.eval y = .float .f64 Y)
    (hV : ∀ r, ab r = fO bop (ab X) (ab Y) → r < two64 → V (.float .f64 r)) (hC : ∀ w n, C w → C (w.drewN n)) : At P ops C o V a :=
  at_run hw fun w hw' => by
    obtain ⟨r, n, h1, h2, h3⟩ := exec_arith (P := P) bop t z x y ho ha X Y hx hy w
    exact ⟨_, _, h1, hV r h2 h3, hC w n hw'⟩

/-- A comparison of floats. -/
theorem at_geq (hw : Region.wanted o (yielded ops a.tmps) = true) (t z : TypeId) (x y : Operand) (ho : o.op = .binOp .geq t x y z) (X Y : Nat) (hx : a.eval x = .float .f64 X) (hy : a.eval y = .float .f64 Y) (hV : V (.bool (geO (ab X) (ab Y)))) : At P ops C o V a :=
  at_same hw _ (fun w _ => by unfold execOp; simp only [ho, hx, hy]; rw [← ord_ge]; rfl) hV
theorem at_leq (hw : Region.wanted o (yielded ops a.tmps) = true) (t z : TypeId) (x y : Operand) (ho : o.op = .binOp .leq t x y z) (X Y : Nat) (hx : a.eval x = .float .f64 X) (hy : a.eval y = .float .f64 Y) (hV : V (.bool (leO (ab X) (ab Y)))) : At P ops C o V a :=
  at_same hw _ (fun w _ => by unfold execOp; simp only [ho, hx, hy]; rw [← ord_le]; rfl) hV

theorem run_call (f : FuncId) (args : Array Operand) (tys : Array TypeId) (ho : o.op = .call { callee := .value (.func f), args := args, argTypes := tys }) (fn : Func) (hf : P.funcs[f]? = some fn) (hn : (fn.name == "runtime.NumGoroutine") = false)
    (hb : fn.body.isNone = false) (w : World) : (execOp a.eval o).run P w = .ok (.enter f (args.map a.eval)) w := by
  have h1 : fn.name ≠ "runtime.NumGoroutine" := by simpa using hn
  have h2 : fn.body ≠ none := by cases h : fn.body <;> simp [h] at hb ⊢
  unfold execOp
  simp [ho, resolve, Act.eval, Deferred.ofValue, invoke, callFunc, hf, h1, h2]

/-- A conversion. -/
theorem at_conv (hw : Region.wanted o (yielded ops a.tmps) = true) (s d : TypeId) (x : Operand) (ho : o.op = .convert s d x) (u : Value) (hx : a.eval x = u) (v : Value) (h : ∀ w, (convert s d u).run P w = .ok v w) (hV : V v) : At P ops C o V a :=
  at_same hw v (fun w _ => by unfold execOp; simp [ho, hx, h]) hV

/-- The builtin min of two floats. -/
theorem at_min (hw : Region.wanted o (yielded ops a.tmps) = true) (x y : Operand) (tys : Array TypeId) (ho : o.op = .call { callee := .builtin .min, args := #[x, y], argTypes := tys }) (X Y : Nat) (hx : a.eval x = .float .f64 X) (hy : a.eval y = .float .f64 Y) (bx : X < two64) (bY : Y < two64)
    (hV : ∀ r, ab r = minO (ab X) (ab Y) → r < two64 → V (.float .f64 r)) (hC : ∀ w n, C w → C (w.drewN n)) : At P ops C o V a :=
  at_run hw fun w hw' => by
    obtain ⟨r, n, h1, h2, h3⟩ := run_min (P := P) tys o.type X Y bx bY w
    refine ⟨_, _, ?_, hV r h2 h3, hC w n hw'⟩
    unfold execOp
    simp [ho, resolve, invoke, builtin, hx, hy, h1]

/-- A call of a Go function. -/
theorem at_call (hw : Region.wanted o (yielded ops a.tmps) = true) (f : FuncId) (args : Array Operand) (tys : Array TypeId) (ho : o.op = .call { callee := .value (.func f), args := args, argTypes := tys }) (fn : Func) (hf : P.funcs[f]? = some fn) (hn : (fn.name == "runtime.NumGoroutine") = false)
    (hb : fn.body.isNone = false) (vs : Array Value) (hvs : args.toList.map a.eval = vs.toList) (h : ∀ w, C w → Calls P f vs w (fun e w' => (∃ v, e = .returned v ∧ V v) ∧ C w')) : At P ops C o V a := by
  unfold At; rw [if_pos hw]
  intro w hC
  rw [run_call f args tys ho fn hf hn hb w, show args.map a.eval = vs from Array.toList_inj.1 (by rw [Array.toList_map]; exact hvs)]
  exact h w hC
end
end Go.Loose

/-
  The turned ring (seat b6614725a): what the law's own loops lay, and that the turned ring's edge is near just when the first ring's is.
-/
import Derived.Test.Qxb6614725aLawA
import Derived.Test.Qxb6614725aLoose2
namespace Go.Proofs.Qxb6614725a
open Go.ChangeShapes Go.WideShapes Go.ChangeAt Go.RowKit Go.Flt

/-- The ring that starts at number s. -/
def rot (vs : List V3) (s : Nat) : List V3 := (List.range vs.length).map fun i => vs.getD ((i + s) % vs.length) V3.zero
theorem rot_length (vs : List V3) (s : Nat) : (rot vs s).length = vs.length := by simp [rot]
theorem rot_get (vs : List V3) (s i : Nat) (h : i < (rot vs s).length) : (rot vs s)[i] = vs.getD ((i + s) % vs.length) V3.zero := by simp [rot]
theorem rot_getD (vs : List V3) (s i : Nat) (h : i < vs.length) : (rot vs s).getD i V3.zero = vs.getD ((i + s) % vs.length) V3.zero := by
  rw [List.getD_eq_getElem?_getD, List.getElem?_eq_getElem (by rw [rot_length]; exact h), Option.getD_some, rot_get]

/-- The number that edge e bears in the turned ring. -/
def back (n s e : Nat) : Nat := (e + n - s) % n

theorem back_lt {n s e : Nat} (h : e < n) : back n s e < n := Nat.mod_lt _ (by omega)
theorem back_at {n s e : Nat} (he : e < n) (hs : s ≤ n) : (back n s e + s) % n = e := by
  unfold back
  rw [Nat.mod_add_mod, show e + n - s + s = e + n by omega, Nat.add_mod_right, Nat.mod_eq_of_lt he]
theorem back_next {n s e : Nat} (hs : s ≤ n) : ((back n s e + 1) % n + s) % n = (e + 1) % n := by
  rw [Nat.mod_add_mod]
  unfold back
  rw [Nat.add_assoc, Nat.mod_add_mod, show e + n - s + (1 + s) = e + 1 + n by omega, Nat.add_mod_right]

theorem near_rot {vs ns : List V3} (p : V3) {s e : Nat} (hl : ns.length = vs.length) (he : e < vs.length) (hs : s ≤ vs.length) : nearK (rot vs s) (rot ns s) p (back vs.length s e) = nearK vs ns p e := by
  unfold nearK
  rw [rot_length, rot_getD vs s _ (back_lt he), rot_getD vs s _ (Nat.mod_lt _ (by omega)), rot_getD ns s _ (by rw [hl]; exact back_lt he), hl, back_at he hs, back_next hs]

theorem any_rot {vs ns : List V3} (p : V3) {s : Nat} {es : List Nat} (hl : ns.length = vs.length) (he : ∀ e ∈ es, e < vs.length) (hs : s ≤ vs.length) : (es.map (back vs.length s)).any (nearK (rot vs s) (rot ns s) p) = es.any (nearK vs ns p) := by
  rw [List.any_map]
  induction es with
  | nil => rfl
  | cons e es ih =>
    rw [List.any_cons, List.any_cons, ih (fun k hk => he k (List.mem_cons_of_mem _ hk))]
    rw [Function.comp_apply, near_rot p hl (he e (List.mem_cons_self)) hs]

/-- A row of vectors being laid, k of them laid. -/
def Ring (wr : World) (b : Nat) (vs : List V3) (k : Nat) : Prop := wr.there b 0 (vs.length * 3) ∧ ∀ t (h : t < vs.length), t < k → wr.rangeAt b (t * 3) (vs[t]).cells.toList

theorem Ring.start {wr : World} {b : Nat} {vs : List V3} (h : wr.there b 0 (vs.length * 3)) : Ring wr b vs 0 := ⟨h, fun _ _ h => absurd h (Nat.not_lt_zero _)⟩
theorem Ring.part {wr : World} {b k : Nat} {vs : List V3} (h : Ring wr b vs k) (hk : k < vs.length) : wr.there b (k * 3) 3 := there_part h.1 (k * 3) 3 (by omega)
theorem Ring.store {wr : World} {b k : Nat} {vs : List V3} (h : Ring wr b vs k) (hk : k < vs.length) (p : V3) (hp : vs[k] = p) : Ring (wr.setCells b (k * 3) p.cells.toList) b vs (k + 1) := by
  refine ⟨World.there_setCells h.1 _ _ _, fun t ht htk => ?_⟩
  by_cases e : t = k
  · subst e
    rw [hp]
    exact World.rangeAt_setCells_same wr b (t * 3) p.cells.toList (h.part hk)
  · exact World.rangeAt_setCells_apart (h.2 t ht (by omega)) _ _ _ (.inr (.inl (by simp; omega)))
theorem Ring.apart {wr : World} {b b' k o : Nat} {vs : List V3} {cs : List Value} (h : Ring wr b vs k) (hb : b ≠ b') : Ring (wr.setCells b' o cs) b vs k :=
  ⟨World.there_setCells h.1 _ _ _, fun t ht htk => World.rangeAt_setCells_apart (h.2 t ht htk) _ _ _ (.inl hb)⟩
theorem Ring.below {wr w' : World} {b k B : Nat} {vs : List V3} (h : Ring wr b vs k) (hb : Below B wr w') (hB : b < B) : Ring w' b vs k :=
  ⟨there_below h.1 hb hB, fun t ht htk i v hi => by rw [hb.cell hB]; exact h.2 t ht htk i v hi⟩
theorem Ring.done {wr : World} {b k : Nat} {vs : List V3} (h : Ring wr b vs k) (hk : vs.length ≤ k) : VecsAt wr b vs := by
  intro t ht
  have := h.2 t ht (by omega)
  exact ⟨this 0 _ rfl, this 1 _ rfl, this 2 _ rfl⟩

/-- A row of int32 being laid. -/
def Line (wr : World) (b : Nat) (es : List Nat) (k : Nat) : Prop := wr.there b 0 es.length ∧ ∀ t (h : t < es.length), t < k → wr.cell? ⟨b, t, none⟩ = some (.int .i32 (es[t] : Int))
theorem Line.store {wr : World} {b k : Nat} {es : List Nat} (h : Line wr b es k) (hk : k < es.length) (e : Nat) (he : es[k] = e) : Line (wr.setCell ⟨b, k, none⟩ (.int .i32 (e : Int))) b es (k + 1) := by
  have ht : wr.there b k 1 := by intro j hj; have := h.1 (k + j) (by omega); simpa using this
  refine ⟨World.there_setCells h.1 b k [.int .i32 (e : Int)], fun t htl htk => ?_⟩
  by_cases e1 : t = k
  · subst e1
    have := World.rangeAt_setCells_same wr b t [.int .i32 (e : Int)] ht 0 _ rfl
    rw [Nat.add_zero] at this
    rw [he]
    exact this
  · have h0 : wr.rangeAt b t [.int .i32 (es[t] : Int)] := by
      intro i v hi
      cases i with
      | zero => simp at hi; subst hi; exact h.2 t htl (by omega)
      | succ i => simp at hi
    have := World.rangeAt_setCells_apart h0 b k [.int .i32 (e : Int)] (.inr (by simp; omega)) 0 _ rfl
    rw [Nat.add_zero] at this
    exact this
theorem Line.done {wr : World} {b k : Nat} {es : List Nat} (h : Line wr b es k) (hk : es.length ≤ k) : EdgesAt wr (some ⟨b, 0, none⟩) es :=
  .inr ⟨b, 0, rfl, fun j hj => by rw [Nat.zero_add]; exact h.2 j hj (by omega)⟩

theorem conv321 (k : Nat) (hk : k ≤ 16384) (w : World) : (convert 3 21 (.int .i64 k)).run Try.prog w = .ok (.int .i32 k) w := by
  have h1 : (0 : Int) ≤ k := by omega
  have h2 : (k : Int) ≤ 16384 := by omega
  simp [go_sem]
  rw [IntKind.wrap_i32]
  omega

theorem zzb8_any (va na ea : Option Addr) (n1 c1 n2 c2 n3 c3 : Nat) (p : V3) (cut : Int) (w : World) (h1 : n1 ≤ maxLen) (h2 : n2 ≤ maxLen) (h3 : n3 ≤ maxLen) :
    Calls Try.prog 27 #[.slice va n1 c1, .slice na n2 c2, p.val, .slice ea n3 c3, .int .i64 cut] w fun e w' => (∃ x, e = .returned (.bool x)) ∧ Below w.heap.size w w' := by
  unfold maxLen at h1 h2 h3
  have hB0 : Below w.heap.size w (w.alloc (.cells p.cells 31)) := (Below.refl _ _).alloc (Nat.le_refl _) _
  go_enter Try.func27, Try.ntmps27
  go_wp2
  all_goals go_ret
  all_goals exact ⟨⟨_, rfl⟩, hB0⟩

/-- A call in a drawn region. -/
theorem atC_call {P : Program} {ops : Array Oper} {o : Oper} {V : Value → World → Prop} {a : Act} {w0 : World} (hw : Region.wanted o (yielded ops a.tmps) = true) (f : FuncId) (args : Array Operand) (tys : Array TypeId) (ho : o.op = .call { callee := .value (.func f), args := args, argTypes := tys }) (fn : Func) (hf : P.funcs[f]? = some fn) (hn : (fn.name == "runtime.NumGoroutine") = false)
    (hb : fn.body.isNone = false) (vs : Array Value) (hvs : args.toList.map a.eval = vs.toList) (h : ∀ w, Loose2.S w0 w → Calls P f vs w (fun e w' => ∃ v, e = .returned v ∧ V v w' ∧ Loose2.S w w')) : Loose2.AtC P ops o V a w0 := by
  refine ⟨hw, fun w hC => ?_⟩
  rw [Loose.run_call f args tys ho fn hf hn hb w, show args.map a.eval = vs from Array.toList_inj.1 (by rw [Array.toList_map]; exact hvs)]
  exact h w hC

end Go.Proofs.Qxb6614725a

/-
  The contracts over the 56 cells of Stats and the 57 of reportRun (seat b6615502a).
-/
import Derived.Test.Qxb6615502aWalkB
import Derived.Deep.MidRow
namespace Go.Proofs.Qxb6615502a.Cached
open Go.ChangeShapes Go.WideShapes Go.ChangeAt Go.RowKit

theorem zzb_any (c : Bool) (a : Option Addr) (len cap : Nat) (w : World) (h : len ≤ maxLen) :
    Calls Try.prog 22 #[.bool c, .slice a len cap] w fun e w' => (∃ x, e = .returned (.bool x)) ∧ w' = w := by
  unfold maxLen at h
  go_enter Try.func22, Try.ntmps22
  go_wp2
  all_goals go_ret
  all_goals exact ⟨⟨_, rfl⟩, rfl⟩

/-- The cells of Stats{cached: c}. -/
def cs0 (c : Bool) : Array Value :=
  #[.int .i64 0, .int .u64 0, .int .u64 0, .int .i64 0] ++ (Array.replicate 37 (.int .u64 0) ++ #[.bool false, .int .u64 0, .bool c, .int .u64 0, .int .u64 0, .int .u64 0, .bool false, .int .u64 0, .int .u64 0, .int .i64 0, .int .i64 0, .int .u64 0, .int .u64 0, .int .i64 0, .bool false])

theorem cs0_size (c : Bool) : (cs0 c).size = 56 := by cases c <;> decide +kernel
theorem cs0_one (c : Bool) : (cs0 c).all (·.oneCell') = true := by cases c <;> decide +kernel

/-- The cells of reportRun{stats: s}. -/
def mk56 (C : Array Value) : Array Value := #[.pointer none] ++ C

theorem run_build52 (c : Bool) (w : World) : (Instr.build 52 #[(19, .bool c)]).run Try.prog w = .ok (.agg (cs0 c)) w := by
  cases c <;> kernel_rfl
theorem run_alloc52 (w : World) : (Instr.alloc 52 true (.tuple #[])).run Try.prog w = .ok (.pointer (some ⟨w.heap.size, 0, none⟩)) (w.alloc (.cells (cs0 false) 52)) := by
  kernel_rfl
theorem run_alloc56 (w : World) : (Instr.alloc 56 true (.tuple #[])).run Try.prog w = .ok (.pointer (some ⟨w.heap.size, 0, none⟩)) (w.alloc (.cells (mk56 (cs0 false)) 56)) := by
  kernel_rfl

theorem build56_lit (y0 y1 y2 y3 y4 y5 y6 y7 y8 y9 y10 y11 y12 y13 y14 y15 y16 y17 y18 y19 y20 y21 y22 y23 y24 y25 y26 y27 y28 y29 y30 y31 y32 y33 y34 y35 y36 y37 y38 y39 y40 y41 y42 y43 y44 y45 y46 y47 y48 y49 y50 y51 y52 y53 y54 y55 : Value) (w : World) : (Instr.build 56 #[(1, .agg ⟨y0 :: y1 :: y2 :: y3 :: y4 :: y5 :: y6 :: y7 :: y8 :: y9 :: y10 :: y11 :: y12 :: y13 :: y14 :: y15 :: y16 :: y17 :: y18 :: y19 :: y20 :: y21 :: y22 :: y23 :: y24 :: y25 :: y26 :: y27 :: y28 :: y29 :: y30 :: y31 :: y32 :: y33 :: y34 :: y35 :: y36 :: y37 :: y38 :: y39 :: y40 :: y41 :: y42 :: y43 :: y44 :: y45 :: y46 :: y47 :: y48 :: y49 :: y50 :: y51 :: y52 :: y53 :: y54 :: y55 :: []⟩)]).run Try.prog w = .ok (.agg (mk56 ⟨y0 :: y1 :: y2 :: y3 :: y4 :: y5 :: y6 :: y7 :: y8 :: y9 :: y10 :: y11 :: y12 :: y13 :: y14 :: y15 :: y16 :: y17 :: y18 :: y19 :: y20 :: y21 :: y22 :: y23 :: y24 :: y25 :: y26 :: y27 :: y28 :: y29 :: y30 :: y31 :: y32 :: y33 :: y34 :: y35 :: y36 :: y37 :: y38 :: y39 :: y40 :: y41 :: y42 :: y43 :: y44 :: y45 :: y46 :: y47 :: y48 :: y49 :: y50 :: y51 :: y52 :: y53 :: y54 :: y55 :: []⟩)) w := by
  kernel_rfl

theorem run_build56 (C : Array Value) (h : C.size = 56) (w : World) : (Instr.build 56 #[(1, .agg C)]).run Try.prog w = .ok (.agg (mk56 C)) w := by
  obtain ⟨l⟩ := C
  simp only [List.size_toArray] at h
  match l, h with
  | y0 :: y1 :: y2 :: y3 :: y4 :: y5 :: y6 :: y7 :: y8 :: y9 :: y10 :: y11 :: y12 :: y13 :: y14 :: y15 :: y16 :: y17 :: y18 :: y19 :: y20 :: y21 :: y22 :: y23 :: y24 :: y25 :: y26 :: y27 :: y28 :: y29 :: y30 :: y31 :: y32 :: y33 :: y34 :: y35 :: y36 :: y37 :: y38 :: y39 :: y40 :: y41 :: y42 :: y43 :: y44 :: y45 :: y46 :: y47 :: y48 :: y49 :: y50 :: y51 :: y52 :: y53 :: y54 :: y55 :: [], _ => exact build56_lit _ _ _ _ _ _ _ _ _ _ _ _ _ _ _ _ _ _ _ _ _ _ _ _ _ _ _ _ _ _ _ _ _ _ _ _ _ _ _ _ _ _ _ _ _ _ _ _ _ _ _ _ _ _ _ _ w

theorem there_new (w : World) (C : Array Value) (t : TypeId) (n : Nat) (h : n ≤ C.size) : (w.alloc (.cells C t)).there w.heap.size 0 n := by
  intro j hj
  rw [Nat.zero_add, World.cell?_alloc_new, World.frozen?_alloc_new]
  simp; omega

theorem range_new (w : World) (C : Array Value) (t : TypeId) : (w.alloc (.cells C t)).rangeAt w.heap.size 0 C.toList := by
  intro j v hv
  rw [Nat.zero_add, World.cell?_alloc_new]
  simpa using hv

theorem info52 : (Try.prog.info? 52).map (·.size) = some 56 := by kernel_rfl
theorem info56 : (Try.prog.info? 56).map (·.size) = some 57 := by kernel_rfl

section
variable {ops : Array Oper} {rest : List Oper} {op : Oper} {a : Act} {w : World} {Q : Exit → Act → World → Prop}

theorem wpList_run (hgd : op.guard = none) {v : Value} {w1 : World} (hr : (execOp a.eval op).run Try.prog w = .ok (.value v) w1) (h : wpList Try.prog ops Q rest (a.put op.dst v) w1) : wpList Try.prog ops Q (op :: rest) a w :=
  wpList_plain hgd fun _ hK => by unfold Oper.wp; rw [hr]; exact hK _ _ h

theorem wpList_alloc52 (hgd : op.guard = none) (ho : op.op = .alloc 52) (h : wpList Try.prog ops Q rest (a.put op.dst (.pointer (some ⟨w.heap.size, 0, none⟩))) (w.alloc (.cells (cs0 false) 52))) : wpList Try.prog ops Q (op :: rest) a w :=
  wpList_run hgd (by unfold execOp; simp only [ho, Sem.run_bind, run_alloc52, Result.andThen_ok]; rfl) h
theorem wpList_alloc56 (hgd : op.guard = none) (ho : op.op = .alloc 56) (h : wpList Try.prog ops Q rest (a.put op.dst (.pointer (some ⟨w.heap.size, 0, none⟩))) (w.alloc (.cells (mk56 (cs0 false)) 56))) : wpList Try.prog ops Q (op :: rest) a w :=
  wpList_run hgd (by unfold execOp; simp only [ho, Sem.run_bind, run_alloc56, Result.andThen_ok]; rfl) h
theorem wpList_build52 (hgd : op.guard = none) (x : Operand) (ho : op.op = .build 52 #[(19, x)]) (c : Bool) (hx : a.eval x = .bool c) (h : wpList Try.prog ops Q rest (a.put op.dst (.agg (cs0 c))) w) : wpList Try.prog ops Q (op :: rest) a w :=
  wpList_run hgd (by unfold execOp; simp only [ho, Sem.run_bind, List.map_toArray, List.map_cons, List.map_nil, hx, run_build52, Result.andThen_ok]; rfl) h
theorem wpList_build56 (hgd : op.guard = none) (x : Operand) (ho : op.op = .build 56 #[(1, x)]) (C : Array Value) (hx : a.eval x = .agg C) (hC : C.size = 56) (h : wpList Try.prog ops Q rest (a.put op.dst (.agg (mk56 C))) w) : wpList Try.prog ops Q (op :: rest) a w :=
  wpList_run hgd (by unfold execOp; simp only [ho, Sem.run_bind, List.map_toArray, List.map_cons, List.map_nil, hx, run_build56 C hC, Result.andThen_ok]; rfl) h
end


/-- What was stored whole into a block that was just made is what lies there. -/
theorem range_stored (w : World) (b : Nat) (C : Array Value) (n : Nat) (h : C.size = n) (ht : w.there b 0 n) : (w.setCells b 0 C.toList).rangeAt b 0 C.toList :=
  World.rangeAt_setCells_same w b 0 C.toList (by simpa [h] using ht)

theorem below_setCells {B : Nat} {a w : World} (b : Nat) (hB : B ≤ b) : ∀ (vs : List Value) (o : Nat), Below B a w → Below B a (w.setCells b o vs)
  | [], _, h => h
  | v :: vs, o, h => by
    show Below B a (World.setCells (w.setCell ⟨b, o, none⟩ v) b (o + 1) vs)
    exact below_setCells b hB vs (o + 1) (h.setCell hB v)

theorem results_var {fn : Func} {t : Tmp} {ty : TypeId} {b : Nat} {C : Array Value} {tmps : Array Value} {w : World} {d : TypeDesc} (h : fn.results = #[.cell t ty]) (hp : tmps.getD t undef = .pointer (some ⟨b, 0, none⟩))
    (hc : w.rangeAt b 0 C.toList) (hu : Try.prog.underlying ty = some d) (hd : d.isRow = true) (hi : (Try.prog.info? ty).map (·.size) = some C.size) : (results fn tmps).run Try.prog w = .ok (.agg C) w := by
  have hl := run_loadVar_mid w b 0 ty C.toList d hc hu hd (by simpa using hi)
  have hp' : tmps[t]?.getD undef = .pointer (some ⟨b, 0, none⟩) := by simpa using hp
  simp [results, h, hp', asAddr, hl]

theorem stats_any (c : Bool) (w : World)  :
    Calls Try.prog 21 #[.bool c] w fun e w' => e = .returned (.agg (cs0 c)) ∧ Below w.heap.size w w' := by
  have ht : (w.alloc (.cells (cs0 false) 52)).there w.heap.size 0 56 := there_new w _ 52 56 (by rw [cs0_size]; omega)
  go_enter Try.func21, Try.ntmps21
  go_wp2_with (first
    | refine wpList_alloc52 rfl rfl ?_
    | refine wpList_build52 rfl _ rfl c (by rfl) ?_
    | refine wpList_store_mid rfl 52 _ _ rfl w.heap.size 0 (cs0 c) (by rfl) (by rfl) (by rw [cs0_size]; exact ht) (by rw [cs0_size]; exact info52) (cs0_one c) ?_)
  refine bodyPost_ret (v := .agg (cs0 c)) (results_var (b := w.heap.size) rfl rfl (range_stored _ _ _ 56 (cs0_size c) ht) Try.underlying52 rfl (by rw [cs0_size]; exact info52)) rfl ⟨rfl, ?_⟩
  exact below_setCells _ (Nat.le_refl _) _ _ ((Below.refl _ _).alloc (Nat.le_refl _) _)

theorem mk56_size (C : Array Value) (h : C.size = 56) : (mk56 C).size = 57 := by simp [mk56, h]

theorem mk56_one (C : Array Value) (h : C.all (·.oneCell') = true) : (mk56 C).all (·.oneCell') = true := by
  unfold mk56
  rw [Array.all_append, h]
  decide +kernel

theorem rep_any (C : Array Value) (w : World) (hC : C.size = 56) (h1 : C.all (·.oneCell') = true) :
    Calls Try.prog 19 #[.agg C] w fun e w' => e = .returned (.agg (mk56 C)) ∧ Below w.heap.size w w' := by
  have ht : ((w.alloc (.cells C 52)).alloc (.cells (mk56 (cs0 false)) 56)).there (w.heap.size + 1) 0 57 := by
    have := there_new (w.alloc (.cells C 52)) (mk56 (cs0 false)) 56 57 (by rw [mk56_size _ (cs0_size _)]; omega)
    simpa using this
  have hr : ((w.alloc (.cells C 52)).alloc (.cells (mk56 (cs0 false)) 56)).rangeAt w.heap.size 0 C.toList :=
    World.rangeAt_alloc (range_new w C 52) _
  go_enter Try.func19, Try.ntmps19
  go_wp2_with (first
    | refine wpList_alloc56 rfl rfl ?_
    | refine wpList_load_mid rfl 52 _ rfl w.heap.size 0 (by rfl) C.toList _ hr Try.underlying52 rfl (by rw [Array.length_toList, hC]; exact info52) ?_
    | refine wpList_build56 rfl _ rfl C (by rfl) hC ?_
    | refine wpList_store_mid rfl 56 _ _ rfl (w.heap.size + 1) 0 (mk56 C) (by first | rfl | go_simp) (by first | rfl | go_simp) (by rw [mk56_size C hC]; exact ht) (by rw [mk56_size C hC]; exact info56) (mk56_one C h1) ?_)
  refine bodyPost_ret (v := .agg (mk56 C)) (results_var (b := w.heap.size + 1) rfl (by first | rfl | go_simp) (range_stored _ _ _ 57 (mk56_size C hC) ht) Try.underlying56 rfl (by rw [mk56_size C hC]; exact info56)) rfl ⟨rfl, ?_⟩
  exact below_setCells _ (by omega) _ _ (((Below.refl _ _).alloc (Nat.le_refl _) _).alloc (by simp) _)

theorem cached_any (C : Array Value) (c : Bool) (w : World) (h : C[44]? = some (.bool c)) :
    Calls Try.prog 34 #[.agg C] w fun e w' => e = .returned (.bool c) ∧ w' = w.alloc (.cells C 56) := by
  go_enter Try.func34, Try.ntmps34
  go_wp2
  go_ret
  exact ⟨rfl, rfl⟩

theorem ccached_any (C : Array Value) (c : Bool) (w : World) (hC : C.size = 57) (h : C[44]? = some (.bool c)) :
    Calls Try.prog 18 #[.agg C] w fun e w' => e = .returned (.bool c) ∧ Below w.heap.size w w' := by
  have hr : (w.alloc (.cells C 56)).rangeAt w.heap.size 0 C.toList := range_new w C 56
  go_enter Try.func18, Try.ntmps18
  go_wp2_with (first
    | refine wpList_load_mid rfl 56 _ rfl w.heap.size 0 (by rfl) C.toList _ hr Try.underlying56 rfl (by rw [Array.length_toList, hC]; exact info56) ?_
    | (go_at_call 34; refine (cached_any C c _ h).mono ?_; rintro e w' ⟨rfl, rfl⟩))
  go_ret
  exact ⟨rfl, ((Below.refl _ _).alloc (Nat.le_refl _) _).alloc (by simp) _⟩

theorem sadd_any (w : World) (b : Nat) (n : Int) (hv : Inv b w) (h1 : n < 2147483648) :
    Calls Try.prog 23 #[.pointer (some ⟨b, 0, none⟩), .int .i64 n, .int .i64 0, .bool true, .int .i64 n, .int .i64 n] w fun e w' => e = .returned (.tuple #[]) ∧ St b w w' := by
  go_enter Try.func23, Try.ntmps23
  go_wp2_with (go_at_call 36; refine (add_any _ _ _ hv h1).mono ?_; rintro e w' ⟨rfl, hs⟩)
  go_end0
  exact ⟨rfl, hs⟩

end Go.Proofs.Qxb6615502a.Cached

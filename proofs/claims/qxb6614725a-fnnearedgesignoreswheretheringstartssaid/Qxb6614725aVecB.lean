/-
  angle, onArc (seat b6614725a): regions that draw their order.
-/
import Derived.Test.Qxb6614725aVecA
import Derived.Test.Qxb6614725aAt
namespace Go.Proofs.Qxb6614725a
open Go.ChangeShapes Go.WideShapes Go.ChangeAt Go.RowKit Go.Flt
attribute [local go_sem ↓] ord_le ord_ge ord_ne
attribute [local go_sem] ord_lt ord_gt ord_eq
attribute [local go_sem] run_store_float alloc_drewN setCell_drewN

/-- A set of vectors. -/
def IsV (o : O3) (v : Value) : Prop := ∃ r : V3, v = r.val ∧ r.ab = o ∧ r.Ok

/-- A vector lies at the head of block b. -/
def Lies (w : World) (b : Nat) (p : V3) : Prop := w.rangeAt b 0 [.float .f64 p.x, .float .f64 p.y, .float .f64 p.z]

theorem lies_new (w : World) (p : V3) (t : TypeId) : Lies (w.alloc (.cells p.cells t)) w.heap.size p := by
  intro j v hv
  rw [Nat.zero_add, World.cell?_alloc_new]
  simpa using hv

theorem Lies.lt {w : World} {b : Nat} {p : V3} (h : Lies w b p) : b < w.heap.size := by
  have := h 0 _ rfl
  exact World.block_lt_of_cell? _ _ this

theorem Lies.below {w w' : World} {b B : Nat} {p : V3} (h : Lies w b p) (hb : Below B w w') (hB : b < B) : Lies w' b p := by
  intro j v hv
  rw [hb.cell hB]
  exact h j v hv

theorem Lies.alloc {w : World} {b : Nat} {p : V3} (h : Lies w b p) (o : Obj) : Lies (w.alloc o) b p := World.rangeAt_alloc h o

theorem info49 : (Try.prog.info? 49).map (·.size) = some 3 := by kernel_rfl
theorem info31 : (Try.prog.info? 31).map (·.size) = some 3 := by kernel_rfl

section
variable {ops : Array Oper} {C : World → Prop} {o : Oper} {a : Act} {V : Value → Prop}
theorem at_vec (p : V3) (b : Nat) (hw : Region.wanted o (yielded ops a.tmps) = true) (x : Operand) (ho : o.op = .load 49 x) (hx : a.eval x = .pointer (some ⟨b, 0, none⟩)) (hl : ∀ w, C w → Lies w b p) (hV : V p.val) : Loose.At Try.prog ops C o V a :=
  Loose.at_load hw 49 x ho b 0 hx [.float .f64 p.x, .float .f64 p.y, .float .f64 p.z] _ Try.underlying49 rfl info49 hl hV
end

/-- A callee's contract, in a world of the class. -/
theorem callF {f : FuncId} {vs : Array Value} {o : Option Nat} {W w : World} (hC : Below W.heap.size W w) (h : Calls Try.prog f vs w (GivesB o w)) : Calls Try.prog f vs w (fun e w' => (∃ v, e = .returned v ∧ IsF o v) ∧ Below W.heap.size W w') :=
  h.mono fun _ _ ⟨⟨r, he, hr, hb⟩, hbl⟩ => ⟨⟨_, he, r, rfl, hr, hb⟩, hC.trans (hbl.mono hC.size)⟩
theorem callD {f : FuncId} {vs : Array Value} {o : Option Nat} {W w : World} (hC : Below W.heap.size W w) (h : Calls Try.prog f vs w (Gives o w)) : Calls Try.prog f vs w (fun e w' => (∃ v, e = .returned v ∧ IsF o v) ∧ Below W.heap.size W w') :=
  h.mono fun _ _ ⟨⟨r, he, hr, hb⟩, n, hn⟩ => ⟨⟨_, he, r, rfl, hr, hb⟩, by rw [hn]; exact below_drewN hC n⟩
theorem callV {f : FuncId} {vs : Array Value} {o : O3} {W w : World} (hC : Below W.heap.size W w) (h : Calls Try.prog f vs w (GivesV o w)) : Calls Try.prog f vs w (fun e w' => (∃ v, e = .returned v ∧ IsV o v) ∧ Below W.heap.size W w') :=
  h.mono fun _ _ ⟨⟨r, he, hr, hb⟩, hbl⟩ => ⟨⟨_, he, r, rfl, hr, hb⟩, hC.trans (hbl.mono hC.size)⟩

set_option maxHeartbeats 1000000 in
theorem angle_any (p q : V3) (w : World) : Calls Try.prog 51 #[p.val, q.val] w (GivesB (angleO p.ab q.ab) w) := by
  go_enter Try.func51, Try.ntmps51
  go_wp2_with fail
  have hp : Lies ((w.alloc (.cells p.cells 49)).alloc (.cells q.cells 49)) w.heap.size p := (lies_new w p 49).alloc _
  have hq : Lies ((w.alloc (.cells p.cells 49)).alloc (.cells q.cells 49)) (w.heap.size + 1) q := by
    have := lies_new (w.alloc (.cells p.cells 49)) q 49
    simpa using this
  have hB : Below w.heap.size w ((w.alloc (.cells p.cells 49)).alloc (.cells q.cells 49)) := ((Below.refl _ _).alloc (Nat.le_refl _) _).alloc (by simp) _
  generalize (w.alloc (.cells p.cells 49)).alloc (.cells q.cells 49) = W at *
  have lp : ∀ w', Below W.heap.size W w' → Lies w' w.heap.size p := fun w' h => hp.below h hp.lt
  have lq : ∀ w', Below W.heap.size W w' → Lies w' (w.heap.size + 1) q := fun w' h => hq.below h hq.lt
  refine Loose.wp_region (C := fun w' => Below W.heap.size W w')
    [(· = p.val), (· = q.val), IsV (crossO p.ab q.ab), IsF (normO (crossO p.ab q.ab)), (· = p.val), (· = q.val), IsF (dotO p.ab q.ab), IsF (angleO p.ab q.ab), IsF (angleO p.ab q.ab)] (by kernel_rfl) (by kernel_rfl) (Below.refl _ _).drew ?_
  refine Loose.wpL_cons ?_ ?_
  · exact at_vec p w.heap.size rfl _ rfl rfl lp rfl
  rintro _ rfl
  simp only [Act.put, List.setIfInBounds_toArray, List.set_cons_succ, List.set_cons_zero]
  refine Loose.wpL_cons ?_ ?_
  · exact at_vec q (w.heap.size + 1) rfl _ rfl rfl lq rfl
  rintro _ rfl
  simp only [Act.put, List.setIfInBounds_toArray, List.set_cons_succ, List.set_cons_zero]
  refine Loose.wpL_cons ?_ ?_
  · exact Loose.at_call rfl 52 _ _ rfl _ Try.func52 (by kernel_rfl) (by kernel_rfl) #[p.val, q.val] rfl (fun w' hC => callV hC (cross_any p q w'))
  rintro _ ⟨c, rfl, hc, hcok⟩
  simp only [Act.put, List.setIfInBounds_toArray, List.set_cons_succ, List.set_cons_zero]
  refine Loose.wpL_cons ?_ ?_
  · exact Loose.at_call rfl 50 _ _ rfl _ Try.func50 (by kernel_rfl) (by kernel_rfl) #[c.val] rfl (fun w' hC => by rw [← hc]; exact callF hC (norm_any c w'))
  rintro _ ⟨n, rfl, hn, hnb⟩
  simp only [Act.put, List.setIfInBounds_toArray, List.set_cons_succ, List.set_cons_zero]
  refine Loose.wpL_cons ?_ ?_
  · exact at_vec p w.heap.size rfl _ rfl rfl lp rfl
  rintro _ rfl
  simp only [Act.put, List.setIfInBounds_toArray, List.set_cons_succ, List.set_cons_zero]
  refine Loose.wpL_cons ?_ ?_
  · exact at_vec q (w.heap.size + 1) rfl _ rfl rfl lq rfl
  rintro _ rfl
  simp only [Act.put, List.setIfInBounds_toArray, List.set_cons_succ, List.set_cons_zero]
  refine Loose.wpL_cons ?_ ?_
  · exact Loose.at_call rfl 42 _ _ rfl _ Try.func42 (by kernel_rfl) (by kernel_rfl) #[p.val, q.val] rfl (fun w' hC => callF hC (dot_any p q w'))
  rintro _ ⟨d, rfl, hd, hdb⟩
  simp only [Act.put, List.setIfInBounds_toArray, List.set_cons_succ, List.set_cons_zero]
  refine Loose.wpL_cons ?_ ?_
  · refine Loose.at_call rfl 58 _ _ rfl _ Try.func58 (by kernel_rfl) (by kernel_rfl) #[.float .f64 n, .float .f64 d] rfl (fun w' hC => ?_)
    have := Atan2_any n d w' hnb hdb
    rw [hn, hd] at this
    exact callD hC this
  rintro _ ⟨r, rfl, hr, hrb⟩
  simp only [Act.put, List.setIfInBounds_toArray, List.set_cons_succ, List.set_cons_zero]
  refine Loose.wpL_cons ?_ ?_
  · exact Loose.at_assign rfl _ rfl ⟨r, rfl, hr, hrb⟩
  rintro _ ⟨r, rfl, hr, hrb⟩
  simp only [Act.put, List.setIfInBounds_toArray, List.set_cons_succ, List.set_cons_zero]
  refine Loose.wpL_nil ?_
  intro w' hw'
  go_wp2_with fail
  go_ret
  exact ⟨⟨r, rfl, hr, hrb⟩, hB.trans (hw'.mono hB.size)⟩

def slackO (n x : O3) : Option Nat := fO .mul (fO .mul (K 13614948676314551830) (normO n)) (normO x)
def onArcO (x p0 p1 n : O3) : Bool := geO (dotO x (crossO n p0)) (slackO n x) && geO (dotO x (crossO p1 n)) (slackO n x)

set_option maxHeartbeats 2000000 in
theorem onArc_any (x p0 p1 n : V3) (w : World) : Calls Try.prog 47 #[x.val, p0.val, p1.val, n.val] w fun e w' => e = .returned (.bool (onArcO x.ab p0.ab p1.ab n.ab)) ∧ Below w.heap.size w w' := by
  go_enter Try.func47, Try.ntmps47
  go_wp2_with fail
  have h4 : Lies ((((w.alloc (.cells x.cells 49)).alloc (.cells p0.cells 49)).alloc (.cells p1.cells 49)).alloc (.cells n.cells 49)) w.heap.size x := (((lies_new w x 49).alloc _).alloc _).alloc _
  have h5 : Lies ((((w.alloc (.cells x.cells 49)).alloc (.cells p0.cells 49)).alloc (.cells p1.cells 49)).alloc (.cells n.cells 49)) (w.heap.size + 1) p0 := by
    have := lies_new (w.alloc (.cells x.cells 49)) p0 49
    exact ((by simpa using this : Lies _ (w.heap.size + 1) p0).alloc _).alloc _
  have h6 : Lies ((((w.alloc (.cells x.cells 49)).alloc (.cells p0.cells 49)).alloc (.cells p1.cells 49)).alloc (.cells n.cells 49)) (w.heap.size + 1 + 1) p1 := by
    have := lies_new ((w.alloc (.cells x.cells 49)).alloc (.cells p0.cells 49)) p1 49
    exact (by simpa using this : Lies _ (w.heap.size + 1 + 1) p1).alloc _
  have h7 : Lies ((((w.alloc (.cells x.cells 49)).alloc (.cells p0.cells 49)).alloc (.cells p1.cells 49)).alloc (.cells n.cells 49)) (w.heap.size + 1 + 1 + 1) n := by
    have := lies_new (((w.alloc (.cells x.cells 49)).alloc (.cells p0.cells 49)).alloc (.cells p1.cells 49)) n 49
    simpa using this
  have hB : Below w.heap.size w ((((w.alloc (.cells x.cells 49)).alloc (.cells p0.cells 49)).alloc (.cells p1.cells 49)).alloc (.cells n.cells 49)) :=
    ((((Below.refl _ _).alloc (Nat.le_refl _) _).alloc (by simp) _).alloc (by simp; omega) _).alloc (by simp; omega) _
  generalize (((w.alloc (.cells x.cells 49)).alloc (.cells p0.cells 49)).alloc (.cells p1.cells 49)).alloc (.cells n.cells 49) = W at *
  have l4 : ∀ w', Below W.heap.size W w' → Lies w' w.heap.size x := fun w' h => h4.below h h4.lt
  have l5 : ∀ w', Below W.heap.size W w' → Lies w' (w.heap.size + 1) p0 := fun w' h => h5.below h h5.lt
  have l6 : ∀ w', Below W.heap.size W w' → Lies w' (w.heap.size + 1 + 1) p1 := fun w' h => h6.below h h6.lt
  have l7 : ∀ w', Below W.heap.size W w' → Lies w' (w.heap.size + 1 + 1 + 1) n := fun w' h => h7.below h h7.lt
  have hdr : ∀ w' k, Below W.heap.size W w' → Below W.heap.size W (w'.drewN k) := fun w' k h => below_drewN h k
  refine Loose.wp_region (C := fun w' => Below W.heap.size W w')
    [(· = n.val), IsF (normO n.ab), IsF (fO .mul (K 13614948676314551830) (normO n.ab)), (· = x.val), IsF (normO x.ab), IsF (slackO n.ab x.ab), IsF (slackO n.ab x.ab)] (by kernel_rfl) (by kernel_rfl) (Below.refl _ _).drew ?_
  refine Loose.wpL_cons ?_ ?_
  · exact at_vec n (w.heap.size + 1 + 1 + 1) rfl _ rfl rfl l7 rfl
  rintro _ rfl
  simp only [Act.put, List.setIfInBounds_toArray, List.set_cons_succ, List.set_cons_zero]
  refine Loose.wpL_cons ?_ ?_
  · exact Loose.at_call rfl 50 _ _ rfl _ Try.func50 (by kernel_rfl) (by kernel_rfl) #[n.val] rfl (fun w' hC => callF hC (norm_any n w'))
  rintro _ ⟨r1, rfl, e1, b1⟩
  simp only [Act.put, List.setIfInBounds_toArray, List.set_cons_succ, List.set_cons_zero]
  refine Loose.wpL_cons ?_ ?_
  · exact Loose.at_arith rfl .mul _ _ _ _ rfl rfl _ _ rfl rfl (fun r hr hb => ⟨r, rfl, by rw [hr, e1], hb⟩) hdr
  rintro _ ⟨r2, rfl, e2, b2⟩
  simp only [Act.put, List.setIfInBounds_toArray, List.set_cons_succ, List.set_cons_zero]
  refine Loose.wpL_cons ?_ ?_
  · exact at_vec x w.heap.size rfl _ rfl rfl l4 rfl
  rintro _ rfl
  simp only [Act.put, List.setIfInBounds_toArray, List.set_cons_succ, List.set_cons_zero]
  refine Loose.wpL_cons ?_ ?_
  · exact Loose.at_call rfl 50 _ _ rfl _ Try.func50 (by kernel_rfl) (by kernel_rfl) #[x.val] rfl (fun w' hC => callF hC (norm_any x w'))
  rintro _ ⟨r3, rfl, e3, b3⟩
  simp only [Act.put, List.setIfInBounds_toArray, List.set_cons_succ, List.set_cons_zero]
  refine Loose.wpL_cons ?_ ?_
  · exact Loose.at_arith rfl .mul _ _ _ _ rfl rfl _ _ rfl rfl (fun r hr hb => ⟨r, rfl, by rw [hr, e2, e3]; rfl, hb⟩) hdr
  rintro _ ⟨s, rfl, es, bs⟩
  simp only [Act.put, List.setIfInBounds_toArray, List.set_cons_succ, List.set_cons_zero]
  refine Loose.wpL_cons ?_ ?_
  · exact Loose.at_assign rfl _ rfl ⟨s, rfl, es, bs⟩
  rintro _ ⟨s, rfl, es, bs⟩
  simp only [Act.put, List.setIfInBounds_toArray, List.set_cons_succ, List.set_cons_zero]
  refine Loose.wpL_nil ?_
  intro w1 hw1
  clear h4 h5 h6 h7
  go_wp2_with fail
  cases hg : geO (dotO x.ab (crossO n.ab p0.ab)) (slackO n.ab x.ab)
  · refine Loose.wp_region (C := fun w' => Below W.heap.size W w')
      [(· = x.val), (· = n.val), (· = p0.val), IsV (crossO n.ab p0.ab), IsF (dotO x.ab (crossO n.ab p0.ab)), IsF (slackO n.ab x.ab), (· = .bool false), (· = .bool false),
       (· = undef), (· = undef), (· = undef), (· = undef), (· = undef), (· = undef), (· = undef), (· = .bool false), (· = .bool false)] (by kernel_rfl) (by kernel_rfl) hw1.drew ?_
    refine Loose.wpL_cons ?_ ?_
    · exact at_vec x w.heap.size rfl _ rfl rfl l4 rfl
    rintro _ rfl
    simp only [Act.put, List.setIfInBounds_toArray, List.set_cons_succ, List.set_cons_zero]
    refine Loose.wpL_cons ?_ ?_
    · exact at_vec n (w.heap.size + 1 + 1 + 1) rfl _ rfl rfl l7 rfl
    rintro _ rfl
    simp only [Act.put, List.setIfInBounds_toArray, List.set_cons_succ, List.set_cons_zero]
    refine Loose.wpL_cons ?_ ?_
    · exact at_vec p0 (w.heap.size + 1) rfl _ rfl rfl l5 rfl
    rintro _ rfl
    simp only [Act.put, List.setIfInBounds_toArray, List.set_cons_succ, List.set_cons_zero]
    refine Loose.wpL_cons ?_ ?_
    · exact Loose.at_call rfl 52 _ _ rfl _ Try.func52 (by kernel_rfl) (by kernel_rfl) #[n.val, p0.val] rfl (fun w' hC => callV hC (cross_any n p0 w'))
    rintro _ ⟨c, rfl, hc, hcok⟩
    simp only [Act.put, List.setIfInBounds_toArray, List.set_cons_succ, List.set_cons_zero]
    refine Loose.wpL_cons ?_ ?_
    · exact Loose.at_call rfl 42 _ _ rfl _ Try.func42 (by kernel_rfl) (by kernel_rfl) #[x.val, c.val] rfl (fun w' hC => by rw [← hc]; exact callF hC (dot_any x c w'))
    rintro _ ⟨d, rfl, hd, hdb⟩
    simp only [Act.put, List.setIfInBounds_toArray, List.set_cons_succ, List.set_cons_zero]
    refine Loose.wpL_cons ?_ ?_
    · exact Loose.at_move rfl _ rfl ⟨s, rfl, es, bs⟩
    rintro _ ⟨s1, rfl, es1, bs1⟩
    simp only [Act.put, List.setIfInBounds_toArray, List.set_cons_succ, List.set_cons_zero]
    refine Loose.wpL_cons ?_ ?_
    · exact Loose.at_geq rfl _ _ _ _ rfl _ _ rfl rfl (by rw [hd, es1, hg])
    rintro _ rfl
    simp only [Act.put, List.setIfInBounds_toArray, List.set_cons_succ, List.set_cons_zero]
    refine Loose.wpL_cons ?_ ?_
    · exact Loose.at_move rfl _ rfl rfl
    rintro _ rfl
    simp only [Act.put, List.setIfInBounds_toArray, List.set_cons_succ, List.set_cons_zero]
    iterate 7
      refine Loose.wpL_cons ?_ ?_
      · exact Loose.at_skip rfl rfl
      rintro _ rfl
      simp only [Act.put, List.setIfInBounds_toArray, List.set_cons_succ, List.set_cons_zero]
    refine Loose.wpL_cons ?_ ?_
    · exact Loose.at_same rfl (.bool false) (fun w' _ => rfl) rfl
    rintro _ rfl
    simp only [Act.put, List.setIfInBounds_toArray, List.set_cons_succ, List.set_cons_zero]
    refine Loose.wpL_cons ?_ ?_
    · exact Loose.at_assign rfl _ rfl rfl
    rintro _ rfl
    simp only [Act.put, List.setIfInBounds_toArray, List.set_cons_succ, List.set_cons_zero]
    refine Loose.wpL_nil ?_
    intro w2 hw2
    go_wp2_with fail
    go_ret
    exact ⟨by simp [onArcO, hg], hB.trans (hw2.mono hB.size)⟩
  · refine Loose.wp_region (C := fun w' => Below W.heap.size W w')
      [(· = x.val), (· = n.val), (· = p0.val), IsV (crossO n.ab p0.ab), IsF (dotO x.ab (crossO n.ab p0.ab)), IsF (slackO n.ab x.ab), (· = .bool true), (· = .bool true),
       (· = x.val), (· = p1.val), (· = n.val), IsV (crossO p1.ab n.ab), IsF (dotO x.ab (crossO p1.ab n.ab)), IsF (slackO n.ab x.ab),
       (· = .bool (geO (dotO x.ab (crossO p1.ab n.ab)) (slackO n.ab x.ab))), (· = .bool (geO (dotO x.ab (crossO p1.ab n.ab)) (slackO n.ab x.ab))), (· = .bool (geO (dotO x.ab (crossO p1.ab n.ab)) (slackO n.ab x.ab)))] (by kernel_rfl) (by kernel_rfl) hw1.drew ?_
    refine Loose.wpL_cons ?_ ?_
    · exact at_vec x w.heap.size rfl _ rfl rfl l4 rfl
    rintro _ rfl
    simp only [Act.put, List.setIfInBounds_toArray, List.set_cons_succ, List.set_cons_zero]
    refine Loose.wpL_cons ?_ ?_
    · exact at_vec n (w.heap.size + 1 + 1 + 1) rfl _ rfl rfl l7 rfl
    rintro _ rfl
    simp only [Act.put, List.setIfInBounds_toArray, List.set_cons_succ, List.set_cons_zero]
    refine Loose.wpL_cons ?_ ?_
    · exact at_vec p0 (w.heap.size + 1) rfl _ rfl rfl l5 rfl
    rintro _ rfl
    simp only [Act.put, List.setIfInBounds_toArray, List.set_cons_succ, List.set_cons_zero]
    refine Loose.wpL_cons ?_ ?_
    · exact Loose.at_call rfl 52 _ _ rfl _ Try.func52 (by kernel_rfl) (by kernel_rfl) #[n.val, p0.val] rfl (fun w' hC => callV hC (cross_any n p0 w'))
    rintro _ ⟨c, rfl, hc, hcok⟩
    simp only [Act.put, List.setIfInBounds_toArray, List.set_cons_succ, List.set_cons_zero]
    refine Loose.wpL_cons ?_ ?_
    · exact Loose.at_call rfl 42 _ _ rfl _ Try.func42 (by kernel_rfl) (by kernel_rfl) #[x.val, c.val] rfl (fun w' hC => by rw [← hc]; exact callF hC (dot_any x c w'))
    rintro _ ⟨d, rfl, hd, hdb⟩
    simp only [Act.put, List.setIfInBounds_toArray, List.set_cons_succ, List.set_cons_zero]
    refine Loose.wpL_cons ?_ ?_
    · exact Loose.at_move rfl _ rfl ⟨s, rfl, es, bs⟩
    rintro _ ⟨s1, rfl, es1, bs1⟩
    simp only [Act.put, List.setIfInBounds_toArray, List.set_cons_succ, List.set_cons_zero]
    refine Loose.wpL_cons ?_ ?_
    · exact Loose.at_geq rfl _ _ _ _ rfl _ _ rfl rfl (by rw [hd, es1, hg])
    rintro _ rfl
    simp only [Act.put, List.setIfInBounds_toArray, List.set_cons_succ, List.set_cons_zero]
    refine Loose.wpL_cons ?_ ?_
    · exact Loose.at_move rfl _ rfl rfl
    rintro _ rfl
    simp only [Act.put, List.setIfInBounds_toArray, List.set_cons_succ, List.set_cons_zero]
    refine Loose.wpL_cons ?_ ?_
    · exact at_vec x w.heap.size rfl _ rfl rfl l4 rfl
    rintro _ rfl
    simp only [Act.put, List.setIfInBounds_toArray, List.set_cons_succ, List.set_cons_zero]
    refine Loose.wpL_cons ?_ ?_
    · exact at_vec p1 (w.heap.size + 1 + 1) rfl _ rfl rfl l6 rfl
    rintro _ rfl
    simp only [Act.put, List.setIfInBounds_toArray, List.set_cons_succ, List.set_cons_zero]
    refine Loose.wpL_cons ?_ ?_
    · exact at_vec n (w.heap.size + 1 + 1 + 1) rfl _ rfl rfl l7 rfl
    rintro _ rfl
    simp only [Act.put, List.setIfInBounds_toArray, List.set_cons_succ, List.set_cons_zero]
    refine Loose.wpL_cons ?_ ?_
    · exact Loose.at_call rfl 52 _ _ rfl _ Try.func52 (by kernel_rfl) (by kernel_rfl) #[p1.val, n.val] rfl (fun w' hC => callV hC (cross_any p1 n w'))
    rintro _ ⟨c2, rfl, hc2, hcok2⟩
    simp only [Act.put, List.setIfInBounds_toArray, List.set_cons_succ, List.set_cons_zero]
    refine Loose.wpL_cons ?_ ?_
    · exact Loose.at_call rfl 42 _ _ rfl _ Try.func42 (by kernel_rfl) (by kernel_rfl) #[x.val, c2.val] rfl (fun w' hC => by rw [← hc2]; exact callF hC (dot_any x c2 w'))
    rintro _ ⟨d2, rfl, hd2, hdb2⟩
    simp only [Act.put, List.setIfInBounds_toArray, List.set_cons_succ, List.set_cons_zero]
    refine Loose.wpL_cons ?_ ?_
    · exact Loose.at_move rfl _ rfl ⟨s, rfl, es, bs⟩
    rintro _ ⟨s2, rfl, es2, bs2⟩
    simp only [Act.put, List.setIfInBounds_toArray, List.set_cons_succ, List.set_cons_zero]
    refine Loose.wpL_cons ?_ ?_
    · exact Loose.at_geq rfl _ _ _ _ rfl _ _ rfl rfl (by rw [hd2, es2])
    rintro _ rfl
    simp only [Act.put, List.setIfInBounds_toArray, List.set_cons_succ, List.set_cons_zero]
    refine Loose.wpL_cons ?_ ?_
    · exact Loose.at_same rfl (.bool (geO (dotO x.ab (crossO p1.ab n.ab)) (slackO n.ab x.ab))) (fun w' _ => rfl) rfl
    rintro _ rfl
    simp only [Act.put, List.setIfInBounds_toArray, List.set_cons_succ, List.set_cons_zero]
    refine Loose.wpL_cons ?_ ?_
    · exact Loose.at_assign rfl _ rfl rfl
    rintro _ rfl
    simp only [Act.put, List.setIfInBounds_toArray, List.set_cons_succ, List.set_cons_zero]
    refine Loose.wpL_nil ?_
    intro w2 hw2
    go_wp2_with fail
    go_ret
    exact ⟨by simp [onArcO, hg], hB.trans (hw2.mono hB.size)⟩

end Go.Proofs.Qxb6614725a

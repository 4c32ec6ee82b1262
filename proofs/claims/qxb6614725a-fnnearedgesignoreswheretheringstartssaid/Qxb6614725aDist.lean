/-
  Polygon.edgeDistance (seat b6614725a).
-/
import Derived.Test.Qxb6614725aEdge
namespace Go.Proofs.Qxb6614725a
open Go.ChangeShapes Go.WideShapes Go.ChangeAt Go.RowKit Go.Flt
attribute [local go_sem] run_store_float alloc_drewN setCell_drewN

theorem bcell {W w1 : World} (hb : Below W.heap.size W w1) : (∀ b o, b < W.heap.size → w1.cell? ⟨b, o, none⟩ = W.cell? ⟨b, o, none⟩) ∧ (∀ b o, b < W.heap.size → w1.frozen? ⟨b, o, none⟩ = W.frozen? ⟨b, o, none⟩) :=
  ⟨fun b o h => hb.cell (p := ⟨b, o, none⟩) h, fun b o h => hb.frozen (p := ⟨b, o, none⟩) h⟩

def edgeDistO (x a b n : O3) : Option Nat :=
  if onArcO x a b n then asinO (minO (fO .quo (absO (dotO x n)) (normO n)) (K 4607182418800017408)) else minO (angleO x a) (angleO x b)

theorem Lies.cells {w : World} {b : Nat} {p : V3} (h : Lies w b p) : w.cell? ⟨b, 0, none⟩ = some (.float .f64 p.x) ∧ w.cell? ⟨b, 1, none⟩ = some (.float .f64 p.y) ∧ w.cell? ⟨b, 2, none⟩ = some (.float .f64 p.z) :=
  ⟨h 0 _ rfl, h 1 _ rfl, h 2 _ rfl⟩

set_option maxHeartbeats 4000000 in
theorem dist_any (va vb : Nat) (vs ns : List V3) (k : Nat) (x : V3) (w : World) (hk : k < vs.length) (hl : ns.length = vs.length) (hn : vs.length ≤ 16384) (hv : VecsAt w va vs) (hs : VecsAt w vb ns) (a b m : V3)
    (ha : vs[k] = a) (hb : vs[(k + 1) % vs.length]'(Nat.mod_lt _ (by omega)) = b) (hm : ns[k]'(by omega) = m) :
    Calls Try.prog 43 #[.agg (poly (some ⟨va, 0, none⟩) (some ⟨vb, 0, none⟩) vs.length), .int .i64 k, x.val] w (GivesB (edgeDistO x.ab a.ab b.ab m.ab) w) := by
  have hva := hv.lt (by omega)
  have hvb := hs.lt (by omega)
  have hB : Below w.heap.size w ((w.alloc (.cells (poly (some ⟨va, 0, none⟩) (some ⟨vb, 0, none⟩) vs.length) 71)).alloc (.cells x.cells 49)) := ((Below.refl _ _).alloc (Nat.le_refl _) _).alloc (by simp) _
  have he := edge_any va vb vs ns k ((w.alloc (.cells (poly (some ⟨va, 0, none⟩) (some ⟨vb, 0, none⟩) vs.length) 71)).alloc (.cells x.cells 49)) hk hl hn (hv.below hB hva) (hs.below hB hvb)
  rw [ha, hb, hm] at he
  have hx : Lies ((w.alloc (.cells (poly (some ⟨va, 0, none⟩) (some ⟨vb, 0, none⟩) vs.length) 71)).alloc (.cells x.cells 49)) (w.heap.size + 1) x := by
    have := lies_new (w.alloc (.cells (poly (some ⟨va, 0, none⟩) (some ⟨vb, 0, none⟩) vs.length) 71)) x 49
    simpa using this
  clear hv hs ha hb hm
  generalize vs.length = n at *
  unfold poly at *
  go_enter Try.func43, Try.ntmps43
  go_wp2_with fail
  refine he.mono ?_
  rintro e w1 ⟨rfl, hb1⟩
  have hx1 : Lies w1 (w.heap.size + 1) x := hx.below hb1 hx.lt
  have hxl : w.heap.size + 1 < w1.heap.size := hx1.lt
  have hB1 : Below w.heap.size w w1 := hB.trans (hb1.mono hB.size)
  clear hx he hb1 hB
  obtain ⟨x0, x1, x2⟩ := hx1.cells
  have hxl1 : w.heap.size + 1 < w1.heap.size + 1 := by omega
  have hxl2 : w.heap.size + 1 < w1.heap.size + 1 + 1 := by omega
  go_wp2_with fail
  have g0 : Lies (((w1.alloc (.cells a.cells 49)).alloc (.cells b.cells 49)).alloc (.cells m.cells 49)) (w.heap.size + 1) x := ((hx1.alloc _).alloc _).alloc _
  have g1 : Lies (((w1.alloc (.cells a.cells 49)).alloc (.cells b.cells 49)).alloc (.cells m.cells 49)) w1.heap.size a := ((lies_new w1 a 49).alloc _).alloc _
  have g2 : Lies (((w1.alloc (.cells a.cells 49)).alloc (.cells b.cells 49)).alloc (.cells m.cells 49)) (w1.heap.size + 1) b := by
    have := lies_new (w1.alloc (.cells a.cells 49)) b 49
    exact (by simpa using this : Lies _ (w1.heap.size + 1) b).alloc _
  have g3 : Lies (((w1.alloc (.cells a.cells 49)).alloc (.cells b.cells 49)).alloc (.cells m.cells 49)) (w1.heap.size + 1 + 1) m := by
    have := lies_new ((w1.alloc (.cells a.cells 49)).alloc (.cells b.cells 49)) m 49
    simpa using this
  have hB2 : Below w.heap.size w (((w1.alloc (.cells a.cells 49)).alloc (.cells b.cells 49)).alloc (.cells m.cells 49)) :=
    ((hB1.alloc hB1.size _).alloc (by have := hB1.size; simp; omega) _).alloc (by have := hB1.size; simp; omega) _
  generalize ((w1.alloc (.cells a.cells 49)).alloc (.cells b.cells 49)).alloc (.cells m.cells 49) = W at *
  clear x0 x1 x2 hx1 hB1 hxl1 hxl2 hxl
  have l0 : ∀ w', Below W.heap.size W w' → Lies w' (w.heap.size + 1) x := fun w' h => g0.below h g0.lt
  have l1 : ∀ w', Below W.heap.size W w' → Lies w' w1.heap.size a := fun w' h => g1.below h g1.lt
  have l2 : ∀ w', Below W.heap.size W w' → Lies w' (w1.heap.size + 1) b := fun w' h => g2.below h g2.lt
  have l3 : ∀ w', Below W.heap.size W w' → Lies w' (w1.heap.size + 1 + 1) m := fun w' h => g3.below h g3.lt
  have hdr : ∀ w' k, Below W.heap.size W w' → Below W.heap.size W (w'.drewN k) := fun w' k h => below_drewN h k
  clear g0 g1 g2 g3
  refine (onArc_any x a b m W).mono ?_
  rintro e w2 ⟨rfl, hb2⟩
  cases hg : onArcO x.ab a.ab b.ab m.ab
  · go_wp2_with fail
    refine Loose.wp_region (C := fun w' => Below W.heap.size W w')
      [(· = x.val), (· = a.val), IsF (angleO x.ab a.ab), (· = x.val), (· = b.val), IsF (angleO x.ab b.ab), IsF (minO (angleO x.ab a.ab) (angleO x.ab b.ab)), IsF (minO (angleO x.ab a.ab) (angleO x.ab b.ab))] (by kernel_rfl) (by kernel_rfl) hb2.drew ?_
    refine Loose.wpL_cons ?_ ?_
    · exact at_vec x (w.heap.size + 1) rfl _ rfl rfl l0 rfl
    rintro _ rfl
    simp only [Act.put, List.setIfInBounds_toArray, List.set_cons_succ, List.set_cons_zero]
    refine Loose.wpL_cons ?_ ?_
    · exact at_vec a w1.heap.size rfl _ rfl rfl l1 rfl
    rintro _ rfl
    simp only [Act.put, List.setIfInBounds_toArray, List.set_cons_succ, List.set_cons_zero]
    refine Loose.wpL_cons ?_ ?_
    · exact Loose.at_call rfl 51 _ _ rfl _ Try.func51 (by kernel_rfl) (by kernel_rfl) #[x.val, a.val] rfl (fun w' hC => callF hC (angle_any x a w'))
    rintro _ ⟨r1, rfl, e1, b1⟩
    simp only [Act.put, List.setIfInBounds_toArray, List.set_cons_succ, List.set_cons_zero]
    refine Loose.wpL_cons ?_ ?_
    · exact at_vec x (w.heap.size + 1) rfl _ rfl rfl l0 rfl
    rintro _ rfl
    simp only [Act.put, List.setIfInBounds_toArray, List.set_cons_succ, List.set_cons_zero]
    refine Loose.wpL_cons ?_ ?_
    · exact at_vec b (w1.heap.size + 1) rfl _ rfl rfl l2 rfl
    rintro _ rfl
    simp only [Act.put, List.setIfInBounds_toArray, List.set_cons_succ, List.set_cons_zero]
    refine Loose.wpL_cons ?_ ?_
    · exact Loose.at_call rfl 51 _ _ rfl _ Try.func51 (by kernel_rfl) (by kernel_rfl) #[x.val, b.val] rfl (fun w' hC => callF hC (angle_any x b w'))
    rintro _ ⟨r2, rfl, e2, b2⟩
    simp only [Act.put, List.setIfInBounds_toArray, List.set_cons_succ, List.set_cons_zero]
    refine Loose.wpL_cons ?_ ?_
    · exact Loose.at_min rfl _ _ _ rfl _ _ rfl rfl b1 b2 (fun r hr hb => ⟨r, rfl, by rw [hr, e1, e2], hb⟩) hdr
    rintro _ ⟨r3, rfl, e3, b3⟩
    simp only [Act.put, List.setIfInBounds_toArray, List.set_cons_succ, List.set_cons_zero]
    refine Loose.wpL_cons ?_ ?_
    · exact Loose.at_assign rfl _ rfl ⟨r3, rfl, e3, b3⟩
    rintro _ ⟨r4, rfl, e4, b4⟩
    simp only [Act.put, List.setIfInBounds_toArray, List.set_cons_succ, List.set_cons_zero]
    refine Loose.wpL_nil ?_
    intro w3 hw3
    go_wp2_with fail
    go_ret
    exact ⟨⟨_, rfl, by rw [e4]; simp [edgeDistO, hg], b4⟩, hB2.trans (hw3.mono hB2.size)⟩
  · go_wp2_with fail
    refine Loose.wp_region (C := fun w' => Below W.heap.size W w')
      [(· = x.val), (· = m.val), IsF (dotO x.ab m.ab), IsF (absO (dotO x.ab m.ab)), (· = m.val), IsF (normO m.ab), IsF (fO .quo (absO (dotO x.ab m.ab)) (normO m.ab)),
       IsF (minO (fO .quo (absO (dotO x.ab m.ab)) (normO m.ab)) (K 4607182418800017408)), IsF (asinO (minO (fO .quo (absO (dotO x.ab m.ab)) (normO m.ab)) (K 4607182418800017408))), IsF (asinO (minO (fO .quo (absO (dotO x.ab m.ab)) (normO m.ab)) (K 4607182418800017408)))] (by kernel_rfl) (by kernel_rfl) hb2.drew ?_
    refine Loose.wpL_cons ?_ ?_
    · exact at_vec x (w.heap.size + 1) rfl _ rfl rfl l0 rfl
    rintro _ rfl
    simp only [Act.put, List.setIfInBounds_toArray, List.set_cons_succ, List.set_cons_zero]
    refine Loose.wpL_cons ?_ ?_
    · exact at_vec m (w1.heap.size + 1 + 1) rfl _ rfl rfl l3 rfl
    rintro _ rfl
    simp only [Act.put, List.setIfInBounds_toArray, List.set_cons_succ, List.set_cons_zero]
    refine Loose.wpL_cons ?_ ?_
    · exact Loose.at_call rfl 42 _ _ rfl _ Try.func42 (by kernel_rfl) (by kernel_rfl) #[x.val, m.val] rfl (fun w' hC => callF hC (dot_any x m w'))
    rintro _ ⟨r1, rfl, e1, b1⟩
    simp only [Act.put, List.setIfInBounds_toArray, List.set_cons_succ, List.set_cons_zero]
    refine Loose.wpL_cons ?_ ?_
    · refine Loose.at_call rfl 49 _ _ rfl _ Try.func49 (by kernel_rfl) (by kernel_rfl) #[.float .f64 r1] rfl (fun w' hC => ?_)
      have := abs_any r1 w' b1
      rw [e1] at this
      exact callD hC this
    rintro _ ⟨r2, rfl, e2, b2⟩
    simp only [Act.put, List.setIfInBounds_toArray, List.set_cons_succ, List.set_cons_zero]
    refine Loose.wpL_cons ?_ ?_
    · exact at_vec m (w1.heap.size + 1 + 1) rfl _ rfl rfl l3 rfl
    rintro _ rfl
    simp only [Act.put, List.setIfInBounds_toArray, List.set_cons_succ, List.set_cons_zero]
    refine Loose.wpL_cons ?_ ?_
    · exact Loose.at_call rfl 50 _ _ rfl _ Try.func50 (by kernel_rfl) (by kernel_rfl) #[m.val] rfl (fun w' hC => callF hC (norm_any m w'))
    rintro _ ⟨r3, rfl, e3, b3⟩
    simp only [Act.put, List.setIfInBounds_toArray, List.set_cons_succ, List.set_cons_zero]
    refine Loose.wpL_cons ?_ ?_
    · exact Loose.at_arith rfl .quo _ _ _ _ rfl rfl _ _ rfl rfl (fun r hr hb => ⟨r, rfl, by rw [hr, e2, e3], hb⟩) hdr
    rintro _ ⟨r4, rfl, e4, b4⟩
    simp only [Act.put, List.setIfInBounds_toArray, List.set_cons_succ, List.set_cons_zero]
    refine Loose.wpL_cons ?_ ?_
    · exact Loose.at_min rfl _ _ _ rfl _ _ rfl rfl b4 (by decide +kernel) (fun r hr hb => ⟨r, rfl, by rw [hr, e4], hb⟩) hdr
    rintro _ ⟨r5, rfl, e5, b5⟩
    simp only [Act.put, List.setIfInBounds_toArray, List.set_cons_succ, List.set_cons_zero]
    refine Loose.wpL_cons ?_ ?_
    · refine Loose.at_call rfl 48 _ _ rfl _ Try.func48 (by kernel_rfl) (by kernel_rfl) #[.float .f64 r5] rfl (fun w' hC => ?_)
      have := Asin_any r5 w' b5
      rw [e5] at this
      exact callD hC this
    rintro _ ⟨r6, rfl, e6, b6⟩
    simp only [Act.put, List.setIfInBounds_toArray, List.set_cons_succ, List.set_cons_zero]
    refine Loose.wpL_cons ?_ ?_
    · exact Loose.at_assign rfl _ rfl ⟨r6, rfl, e6, b6⟩
    rintro _ ⟨r7, rfl, e7, b7⟩
    simp only [Act.put, List.setIfInBounds_toArray, List.set_cons_succ, List.set_cons_zero]
    refine Loose.wpL_nil ?_
    intro w3 hw3
    go_wp2_with fail
    go_ret
    exact ⟨⟨_, rfl, by rw [e7]; simp [edgeDistO, hg], b7⟩, hB2.trans (hw3.mono hB2.size)⟩

end Go.Proofs.Qxb6614725a

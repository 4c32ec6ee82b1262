/-
  Polygon.nearEdges (seat b6614725a).
-/
import Derived.Test.Qxb6614725aDist
namespace Go.Proofs.Qxb6614725a
open Go.ChangeShapes Go.WideShapes Go.ChangeAt Go.RowKit Go.Flt
attribute [local go_sem] run_store_float alloc_drewN setCell_drewN

/-- Is p near the edge from a to b, of normal n? -/
def near1O (p a b n : O3) : Bool :=
  leO (fO .mul (dotO p n) (dotO p n)) (fO .mul (K 4176042245715903136) (dotO n n)) && leO (edgeDistO p a b n) (K 4391576639459776022)

def V3.zero : V3 := ⟨0, 0, 0⟩

/-- Is p near edge k of the ring? -/
def nearK (vs ns : List V3) (p : V3) (k : Nat) : Bool := near1O p.ab (vs.getD k V3.zero).ab (vs.getD ((k + 1) % vs.length) V3.zero).ab (ns.getD k V3.zero).ab

theorem conv213 (k : Nat) (hk : k ≤ 16384) (w : World) : (convert 21 3 (.int .i32 k)).run Try.prog w = .ok (.int .i64 k) w := by
  have h1 : (0 : Int) ≤ k := by omega
  have h2 : (k : Int) ≤ 16384 := by omega
  simp [go_sem]
  rw [IntKind.wrap_i64]
  omega

/-- The numbers 'es' lie one behind the other. -/
def EdgesAt (w : World) (a : Option Addr) (es : List Nat) : Prop := es = [] ∨ ∃ b off, a = some ⟨b, off, none⟩ ∧ ∀ j (h : j < es.length), w.cell? ⟨b, off + j, none⟩ = some (.int .i32 (es[j] : Int))

theorem info71 : (Try.prog.info? 71).map (·.size) = some 15 := by kernel_rfl

set_option maxHeartbeats 4000000 in
theorem near_any (pb va vb : Nat) (vs ns : List V3) (p : V3) (ea : Option Addr) (es : List Nat) (cap : Nat) (w : World) (hl : ns.length = vs.length) (hn : vs.length ≤ 16384) (hel : es.length ≤ 65536) (hek : ∀ k ∈ es, k < vs.length)
    (hP : w.rangeAt pb 0 (poly (some ⟨va, 0, none⟩) (some ⟨vb, 0, none⟩) vs.length).toList) (hv : VecsAt w va vs) (hs : VecsAt w vb ns) (he : EdgesAt w ea es) :
    Calls Try.prog 37 #[.pointer (some ⟨pb, 0, none⟩), p.val, .slice ea es.length cap] w fun e w' => e = .returned (.bool (es.any (nearK vs ns p))) ∧ Below w.heap.size w w' := by
  have hB0 : Below w.heap.size w (w.alloc (.cells p.cells 49)) := (Below.refl _ _).alloc (Nat.le_refl _) _
  have hp0 : Lies (w.alloc (.cells p.cells 49)) w.heap.size p := lies_new w p 49
  have hel1 : (es.length : Int) ≤ 65536 := by omega
  go_enter Try.func37, Try.ntmps37
  go_wp2_with fail
  generalize w.alloc (.cells p.cells 49) = W0 at *
  go_loopw [13] (fun i wr => ∃ j : Nat, j ≤ es.length ∧ i = .int .i64 j ∧ Below W0.heap.size W0 wr ∧ (es.take j).any (nearK vs ns p) = false) (fun i _ => es.length - (intOf i).toNat)
  case atStart => exact ⟨0, Nat.zero_le _, rfl, Below.refl _ _, rfl⟩
  case round =>
    obtain ⟨j, hj, rfl, hbl, hno⟩ := hrel
    by_cases hlt : j < es.length
    · have hkm : es[j] ∈ es := List.getElem_mem hlt
      have hk : es[j] < vs.length := hek _ hkm
      have hold : Below w.heap.size w wr := hB0.trans (hbl.mono hB0.size)
      rcases he with he | ⟨eb, eo, rfl, he⟩
      · rw [he] at hlt; cases hlt
      have hva := hv.lt (by omega)
      have hvb := hs.lt (by omega)
      have hpb : pb < w.heap.size := World.block_lt_of_cell? _ _ (hP 0 _ rfl)
      have c1 : wr.cell? ⟨eb, eo + j, none⟩ = some (.int .i32 (es[j] : Int)) := by
        rw [hold.cell (World.block_lt_of_cell? _ _ (he j hlt))]; exact he j hlt
      have c2 : wr.cell? ⟨pb, 1, none⟩ = some (.slice (some ⟨vb, 0, none⟩) vs.length vs.length) := by
        rw [hold.cell hpb]
        have := hP 1 (.slice (some ⟨vb, 0, none⟩) vs.length vs.length) rfl
        simpa using this
      have hv1 := hv.below hold hva
      have hs1 := hs.below hold hvb
      have hP1 : wr.rangeAt pb 0 (poly (some ⟨va, 0, none⟩) (some ⟨vb, 0, none⟩) vs.length).toList := fun i v hi => by
        rw [hold.cell hpb]; exact hP i v hi
      have hp1 : Lies wr w.heap.size p := hp0.below hbl hp0.lt
      have hvb1 : vb < wr.heap.size := Nat.lt_of_lt_of_le hvb hold.size
      have hva1 : va < wr.heap.size := Nat.lt_of_lt_of_le hva hold.size
      have hpb1 : pb < wr.heap.size := Nat.lt_of_lt_of_le hpb hold.size
      obtain ⟨c3, c4, c5⟩ := hs1 es[j] (by omega)
      obtain ⟨c6, c7, c8⟩ := hp1.cells
      have hp1l := hp1.lt
      have HN : Hid (nearK vs ns p es[j] = near1O p.ab (vs[es[j]]).ab (vs[(es[j] + 1) % vs.length]'(Nat.mod_lt _ (by omega))).ab (ns[es[j]]'(by omega)).ab) := by
        unfold Hid nearK
        rw [List.getD_eq_getElem?_getD, List.getElem?_eq_getElem hk, List.getD_eq_getElem?_getD, List.getElem?_eq_getElem (Nat.mod_lt _ (by omega)), List.getD_eq_getElem?_getD, List.getElem?_eq_getElem (by omega)]
        rfl
      have HT : Hid ((es.take (j + 1)).any (nearK vs ns p) = nearK vs ns p es[j]) := by
        unfold Hid
        rw [List.take_succ_eq_append_getElem hlt, List.any_append, hno]
        simp
      have HD := fun w' (h1 : VecsAt w' va vs) (h2 : VecsAt w' vb ns) => dist_any va vb vs ns es[j] p w' hk hl hn h1 h2 _ _ _ rfl rfl rfl
      have HA : Hid (nearK vs ns p es[j] = true → es.any (nearK vs ns p) = true) := fun h => List.any_eq_true.2 ⟨_, hkm, h⟩
      have hkb : es[j] ≤ 16384 := by omega
      generalize ha : vs[es[j]] = a at *
      generalize hb : vs[(es[j] + 1) % vs.length]'(Nat.mod_lt _ (by omega)) = b at *
      generalize hm : ns[es[j]]'(by omega) = m at *
      clear ha hb hm hno hek hkm hP hv hs
      generalize hkk : es[j] = k at *
      clear hkk
      have hk1 : (k : Int) < vs.length := by omega
      have hk0 : (0 : Int) ≤ k := by omega
      have hl1 : (vs.length : Int) ≤ 16384 := by omega
      have hj1 : (j : Int) < es.length := by omega
      go_wp2_with fail
      refine (dot_any p m _).mono ?_
      rintro e w1 ⟨⟨d, rfl, ed, bd⟩, hb1⟩
      have gm : Lies (wr.alloc (.cells m.cells 49)) wr.heap.size m := lies_new wr m 49
      have gp : Lies (wr.alloc (.cells m.cells 49)) w.heap.size p := hp1.alloc _
      have gB : Below wr.heap.size wr (wr.alloc (.cells m.cells 49)) := (Below.refl _ _).alloc (Nat.le_refl _) _
      have gv := hv1.below gB hva1
      have gs := hs1.below gB hvb1
      have gP : (wr.alloc (.cells m.cells 49)).rangeAt pb 0 (poly (some ⟨va, 0, none⟩) (some ⟨vb, 0, none⟩) vs.length).toList := World.rangeAt_alloc hP1 _
      have gBB : Below W0.heap.size W0 (wr.alloc (.cells m.cells 49)) := hbl.trans (gB.mono hbl.size)
      have gz : wr.heap.size < (wr.alloc (.cells m.cells 49)).heap.size := by simp
      generalize wr.alloc (.cells m.cells 49) = Wm at *
      have lm : ∀ w', Below Wm.heap.size Wm w' → Lies w' wr.heap.size m := fun w' h => gm.below h gm.lt
      have lp : ∀ w', Below Wm.heap.size Wm w' → Lies w' w.heap.size p := fun w' h => gp.below h gp.lt
      have lv : ∀ w', Below Wm.heap.size Wm w' → VecsAt w' va vs := fun w' h => gv.below h (by omega)
      have ls : ∀ w', Below Wm.heap.size Wm w' → VecsAt w' vb ns := fun w' h => gs.below h (by omega)
      have lP : ∀ w', Below Wm.heap.size Wm w' → w'.rangeAt pb 0 (poly (some ⟨va, 0, none⟩) (some ⟨vb, 0, none⟩) vs.length).toList := fun w' h i v hi => by
        rw [h.cell (by omega : pb < Wm.heap.size)]; exact gP i v hi
      have hdr : ∀ w' k, Below Wm.heap.size Wm w' → Below Wm.heap.size Wm (w'.drewN k) := fun w' k h => below_drewN h k
      clear gm gp gv gs gP hv1 hs1 hP1 hp1 c1 c2 c3 c4 c5 c6 c7 c8
      have ED : Hid (ab d = dotO p.ab m.ab) := ed
      clear ed
      go_wp2_with fail
      have ed := ED.out
      cases hg : leO (fO .mul (dotO p.ab m.ab) (dotO p.ab m.ab)) (fO .mul (K 4176042245715903136) (dotO m.ab m.ab))
      · refine Loose.wp_region (C := fun w' => Below Wm.heap.size Wm w')
          [IsF (dotO p.ab m.ab), IsF (dotO p.ab m.ab), IsF (fO .mul (dotO p.ab m.ab) (dotO p.ab m.ab)), (· = m.val), (· = m.val), IsF (dotO m.ab m.ab), IsF (fO .mul (K 4176042245715903136) (dotO m.ab m.ab)), (· = .bool false), (· = .bool false),
           (· = undef), (· = undef), (· = undef), (· = undef), (· = undef), (· = undef), (· = undef), (· = undef), (· = .bool false)] (by kernel_rfl) (by kernel_rfl) hb1.drew ?_
        refine Loose.wpL_cons ?_ ?_
        · exact Loose.at_move rfl _ rfl ⟨d, rfl, ed, bd⟩
        rintro _ ⟨d1, rfl, ed1, bd1⟩
        simp only [Act.put, List.setIfInBounds_toArray, List.set_cons_succ, List.set_cons_zero]
        refine Loose.wpL_cons ?_ ?_
        · exact Loose.at_move rfl _ rfl ⟨d, rfl, ed, bd⟩
        rintro _ ⟨d2, rfl, ed2, bd2⟩
        simp only [Act.put, List.setIfInBounds_toArray, List.set_cons_succ, List.set_cons_zero]
        refine Loose.wpL_cons ?_ ?_
        · exact Loose.at_arith rfl .mul _ _ _ _ rfl rfl _ _ rfl rfl (fun r hr hb => ⟨r, rfl, by rw [hr, ed1, ed2], hb⟩) hdr
        rintro _ ⟨dd, rfl, edd, bdd⟩
        simp only [Act.put, List.setIfInBounds_toArray, List.set_cons_succ, List.set_cons_zero]
        refine Loose.wpL_cons ?_ ?_
        · exact at_vec m wr.heap.size rfl _ rfl rfl lm rfl
        rintro _ rfl
        simp only [Act.put, List.setIfInBounds_toArray, List.set_cons_succ, List.set_cons_zero]
        refine Loose.wpL_cons ?_ ?_
        · exact at_vec m wr.heap.size rfl _ rfl rfl lm rfl
        rintro _ rfl
        simp only [Act.put, List.setIfInBounds_toArray, List.set_cons_succ, List.set_cons_zero]
        refine Loose.wpL_cons ?_ ?_
        · exact Loose.at_call rfl 42 _ _ rfl _ Try.func42 (by kernel_rfl) (by kernel_rfl) #[m.val, m.val] rfl (fun w' hC => callF hC (dot_any m m w'))
        rintro _ ⟨mm, rfl, emm, bmm⟩
        simp only [Act.put, List.setIfInBounds_toArray, List.set_cons_succ, List.set_cons_zero]
        refine Loose.wpL_cons ?_ ?_
        · exact Loose.at_arith rfl .mul _ _ _ _ rfl rfl _ _ rfl rfl (fun r hr hb => ⟨r, rfl, by rw [hr, emm], hb⟩) hdr
        rintro _ ⟨cm, rfl, ecm, bcm⟩
        simp only [Act.put, List.setIfInBounds_toArray, List.set_cons_succ, List.set_cons_zero]
        refine Loose.wpL_cons ?_ ?_
        · exact Loose.at_leq rfl _ _ _ _ rfl _ _ rfl rfl (by rw [edd, ecm, hg])
        rintro _ rfl
        simp only [Act.put, List.setIfInBounds_toArray, List.set_cons_succ, List.set_cons_zero]
        refine Loose.wpL_cons ?_ ?_
        · exact Loose.at_move rfl _ rfl rfl
        rintro _ rfl
        simp only [Act.put, List.setIfInBounds_toArray, List.set_cons_succ, List.set_cons_zero]
        iterate 8
          refine Loose.wpL_cons ?_ ?_
          · exact Loose.at_skip rfl rfl
          rintro _ rfl
          simp only [Act.put, List.setIfInBounds_toArray, List.set_cons_succ, List.set_cons_zero]
        refine Loose.wpL_cons ?_ ?_
        · exact Loose.at_same rfl (.bool false) (fun w' _ => rfl) rfl
        rintro _ rfl
        simp only [Act.put, List.setIfInBounds_toArray, List.set_cons_succ, List.set_cons_zero]
        refine Loose.wpL_nil ?_
        intro w2 hw2
        go_wp2_with fail
        go_roundw
        case rel => exact ⟨j + 1, by omega, by go_num, gBB.trans (hw2.mono gBB.size), by rw [HT.out, HN.out]; simp [near1O, hg]⟩
        case measure => simp [intOf]; omega
      · cases hh : leO (edgeDistO p.ab a.ab b.ab m.ab) (K 4391576639459776022)
        all_goals
          refine Loose.wp_region (C := fun w' => Below Wm.heap.size Wm w')
            [IsF (dotO p.ab m.ab), IsF (dotO p.ab m.ab), IsF (fO .mul (dotO p.ab m.ab) (dotO p.ab m.ab)), (· = m.val), (· = m.val), IsF (dotO m.ab m.ab), IsF (fO .mul (K 4176042245715903136) (dotO m.ab m.ab)), (· = .bool true), (· = .bool true),
             (· = .pointer (some ⟨pb, 0, none⟩)), (· = .pointer (some ⟨pb, 0, none⟩)), (· = .agg (poly (some ⟨va, 0, none⟩) (some ⟨vb, 0, none⟩) vs.length)), (· = .int .i32 k), (· = .int .i64 k), (· = p.val), IsF (edgeDistO p.ab a.ab b.ab m.ab),
             (· = .bool (leO (edgeDistO p.ab a.ab b.ab m.ab) (K 4391576639459776022))), (· = .bool (leO (edgeDistO p.ab a.ab b.ab m.ab) (K 4391576639459776022)))] (by kernel_rfl) (by kernel_rfl) hb1.drew ?_
          refine Loose.wpL_cons ?_ ?_
          · exact Loose.at_move rfl _ rfl ⟨d, rfl, ed, bd⟩
          rintro _ ⟨d1, rfl, ed1, bd1⟩
          simp only [Act.put, List.setIfInBounds_toArray, List.set_cons_succ, List.set_cons_zero]
          refine Loose.wpL_cons ?_ ?_
          · exact Loose.at_move rfl _ rfl ⟨d, rfl, ed, bd⟩
          rintro _ ⟨d2, rfl, ed2, bd2⟩
          simp only [Act.put, List.setIfInBounds_toArray, List.set_cons_succ, List.set_cons_zero]
          refine Loose.wpL_cons ?_ ?_
          · exact Loose.at_arith rfl .mul _ _ _ _ rfl rfl _ _ rfl rfl (fun r hr hb => ⟨r, rfl, by rw [hr, ed1, ed2], hb⟩) hdr
          rintro _ ⟨dd, rfl, edd, bdd⟩
          simp only [Act.put, List.setIfInBounds_toArray, List.set_cons_succ, List.set_cons_zero]
          refine Loose.wpL_cons ?_ ?_
          · exact at_vec m wr.heap.size rfl _ rfl rfl lm rfl
          rintro _ rfl
          simp only [Act.put, List.setIfInBounds_toArray, List.set_cons_succ, List.set_cons_zero]
          refine Loose.wpL_cons ?_ ?_
          · exact at_vec m wr.heap.size rfl _ rfl rfl lm rfl
          rintro _ rfl
          simp only [Act.put, List.setIfInBounds_toArray, List.set_cons_succ, List.set_cons_zero]
          refine Loose.wpL_cons ?_ ?_
          · exact Loose.at_call rfl 42 _ _ rfl _ Try.func42 (by kernel_rfl) (by kernel_rfl) #[m.val, m.val] rfl (fun w' hC => callF hC (dot_any m m w'))
          rintro _ ⟨mm, rfl, emm, bmm⟩
          simp only [Act.put, List.setIfInBounds_toArray, List.set_cons_succ, List.set_cons_zero]
          refine Loose.wpL_cons ?_ ?_
          · exact Loose.at_arith rfl .mul _ _ _ _ rfl rfl _ _ rfl rfl (fun r hr hb => ⟨r, rfl, by rw [hr, emm], hb⟩) hdr
          rintro _ ⟨cm, rfl, ecm, bcm⟩
          simp only [Act.put, List.setIfInBounds_toArray, List.set_cons_succ, List.set_cons_zero]
          refine Loose.wpL_cons ?_ ?_
          · exact Loose.at_leq rfl _ _ _ _ rfl _ _ rfl rfl (by rw [edd, ecm, hg])
          rintro _ rfl
          simp only [Act.put, List.setIfInBounds_toArray, List.set_cons_succ, List.set_cons_zero]
          refine Loose.wpL_cons ?_ ?_
          · exact Loose.at_move rfl _ rfl rfl
          rintro _ rfl
          simp only [Act.put, List.setIfInBounds_toArray, List.set_cons_succ, List.set_cons_zero]
          refine Loose.wpL_cons ?_ ?_
          · exact Loose.at_move rfl _ rfl rfl
          rintro _ rfl
          simp only [Act.put, List.setIfInBounds_toArray, List.set_cons_succ, List.set_cons_zero]
          refine Loose.wpL_cons ?_ ?_
          · exact Loose.at_same rfl (.pointer (some ⟨pb, 0, none⟩)) (fun w' _ => rfl) rfl
          rintro _ rfl
          simp only [Act.put, List.setIfInBounds_toArray, List.set_cons_succ, List.set_cons_zero]
          refine Loose.wpL_cons ?_ ?_
          · exact Loose.at_load rfl 71 _ rfl pb 0 rfl (poly (some ⟨va, 0, none⟩) (some ⟨vb, 0, none⟩) vs.length).toList _ Try.underlying71 rfl info71 lP rfl
          rintro _ rfl
          simp only [Act.put, List.setIfInBounds_toArray, List.set_cons_succ, List.set_cons_zero]
          refine Loose.wpL_cons ?_ ?_
          · exact Loose.at_move rfl _ rfl rfl
          rintro _ rfl
          simp only [Act.put, List.setIfInBounds_toArray, List.set_cons_succ, List.set_cons_zero]
          refine Loose.wpL_cons ?_ ?_
          · exact Loose.at_conv rfl 21 3 _ rfl _ rfl _ (fun w' => conv213 k hkb w') rfl
          rintro _ rfl
          simp only [Act.put, List.setIfInBounds_toArray, List.set_cons_succ, List.set_cons_zero]
          refine Loose.wpL_cons ?_ ?_
          · exact at_vec p w.heap.size rfl _ rfl rfl lp rfl
          rintro _ rfl
          simp only [Act.put, List.setIfInBounds_toArray, List.set_cons_succ, List.set_cons_zero]
          refine Loose.wpL_cons ?_ ?_
          · exact Loose.at_call rfl 43 _ _ rfl _ Try.func43 (by kernel_rfl) (by kernel_rfl) #[.agg (poly (some ⟨va, 0, none⟩) (some ⟨vb, 0, none⟩) vs.length), .int .i64 k, p.val] rfl (fun w' hC => callF hC (HD w' (lv w' hC) (ls w' hC)))
          rintro _ ⟨ds, rfl, eds, bds⟩
          simp only [Act.put, List.setIfInBounds_toArray, List.set_cons_succ, List.set_cons_zero]
          refine Loose.wpL_cons ?_ ?_
          · exact Loose.at_leq rfl _ _ _ _ rfl _ _ rfl rfl (by rw [eds])
          rintro _ rfl
          simp only [Act.put, List.setIfInBounds_toArray, List.set_cons_succ, List.set_cons_zero]
          refine Loose.wpL_cons ?_ ?_
          · exact Loose.at_same rfl (.bool (leO (edgeDistO p.ab a.ab b.ab m.ab) (K 4391576639459776022))) (fun w' _ => rfl) rfl
          rintro _ rfl
          simp only [Act.put, List.setIfInBounds_toArray, List.set_cons_succ, List.set_cons_zero]
          refine Loose.wpL_nil ?_
          intro w2 hw2
          simp only [hh]
        · go_wp2_with fail
          go_roundw
          case rel => exact ⟨j + 1, by omega, by go_num, gBB.trans (hw2.mono gBB.size), by rw [HT.out, HN.out]; simp [near1O, hg, hh]⟩
          case measure => simp [intOf]; omega
        · go_wp2_with fail
          go_ret
          exact ⟨by rw [HA.out (by rw [HN.out]; simp [near1O, hg, hh])]; rfl, (hB0.trans (gBB.mono hB0.size)).trans (hw2.mono (Nat.le_trans hB0.size gBB.size))⟩
    · have hge : (es.length : Int) ≤ j := by omega
      go_wp2_with fail
      go_ret
      rw [List.take_of_length_le (by omega)] at hno
      exact ⟨by rw [hno]; rfl, hB0.trans (hbl.mono hB0.size)⟩

end Go.Proofs.Qxb6614725a

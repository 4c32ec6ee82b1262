/-
  zzWithin, zzBoxed, zzSameV, zzEndpointHit (seat b6614725a).
-/
import Derived.Test.Qxb6614725aVecs
namespace Go.Proofs.Qxb6614725a
open Go.ChangeShapes Go.WideShapes Go.ChangeAt Go.RowKit Go.Flt
attribute [local go_sem ↓] ord_le ord_ge ord_ne
attribute [local go_sem] ord_lt ord_gt ord_eq run_neg ab_neg
attribute [local go_sem] run_store_float alloc_drewN setCell_drewN

def withinO (x b : Option Nat) : Bool := geO x (negO b) && leO x b
def boxedO (p : O3) (b : Option Nat) : Bool := withinO p.x b && withinO p.y b && withinO p.z b
def sameO (p q : O3) : Bool := eqO p.x q.x && eqO p.y q.y && eqO p.z q.z

theorem within_any (x b : Nat) (w : World) : Calls Try.prog 41 #[.float .f64 x, .float .f64 b] w fun e w' => e = .returned (.bool (withinO (ab x) (ab b))) ∧ w' = w := by
  cases h1 : geO (ab x) (negO (ab b))
  all_goals
    go_enter Try.func41, Try.ntmps41
    go_wp2_with fail
    go_ret
    exact ⟨by simp [withinO, h1], rfl⟩

theorem boxed_any (p : V3) (b : Nat) (w : World) : Calls Try.prog 35 #[p.val, .float .f64 b] w fun e w' => e = .returned (.bool (boxedO p.ab (ab b))) ∧ Below w.heap.size w w' := by
  have hB := (Below.refl w.heap.size w).alloc (Nat.le_refl _) (.cells p.cells 31)
  cases h1 : withinO (ab p.x) (ab b) <;> cases h2 : withinO (ab p.y) (ab b)
  all_goals
    go_enter Try.func35, Try.ntmps35
    go_wp2_with (go_at_call 41; refine (within_any _ _ _).mono ?_; rintro e w' ⟨rfl, rfl⟩)
    go_ret
    exact ⟨by simp [boxedO, V3.ab, h1, h2], hB⟩

theorem same_any (p q : V3) (w : World) : Calls Try.prog 38 #[p.val, q.val] w fun e w' => e = .returned (.bool (sameO p.ab q.ab)) ∧ Below w.heap.size w w' := by
  have hB := ((Below.refl w.heap.size w).alloc (Nat.le_refl _) (.cells p.cells 31)).alloc (by simp) (.cells q.cells 31)
  cases h1 : eqO (ab p.x) (ab q.x) <;> cases h2 : eqO (ab p.y) (ab q.y)
  all_goals
    go_enter Try.func38, Try.ntmps38
    go_wp2_with fail
    go_ret
    exact ⟨by simp [sameO, V3.ab, h1, h2], hB⟩

/-- Is p an end of this edge, as zzEndpointHit asks it? -/
def hit1O (p a b m : O3) : Bool :=
  boxedO a (K 4607182418800017408) && (boxedO b (K 4607182418800017408) && (boxedO m (K 6103021453049119613) && (gtO (dotO m m) (K 0) && (eqO (dotO p m) (K 0) && (sameO p a || sameO p b)))))
def hitK (vs ns : List V3) (p : V3) (k : Nat) : Bool := hit1O p.ab (vs.getD k V3.zero).ab (vs.getD ((k + 1) % vs.length) V3.zero).ab (ns.getD k V3.zero).ab

set_option maxHeartbeats 8000000 in
theorem hit_some (vb vo nb no : Nat) (vs ns : List V3) (vc nc : Nat) (p : V3) (ea : Option Addr) (es : List Nat) (cap : Nat) (w : World) (hl : ns.length = vs.length) (hn : vs.length ≤ 16384) (hel : es.length ≤ 65536) (hek : ∀ k ∈ es, k < vs.length)
    (hv : ∀ j (h : j < vs.length), w.cell? ⟨vb, vo + j * 3, none⟩ = some (.float .f64 vs[j].x) ∧ w.cell? ⟨vb, vo + j * 3 + 1, none⟩ = some (.float .f64 vs[j].y) ∧ w.cell? ⟨vb, vo + j * 3 + 2, none⟩ = some (.float .f64 vs[j].z))
    (hs : ∀ j (h : j < ns.length), w.cell? ⟨nb, no + j * 3, none⟩ = some (.float .f64 ns[j].x) ∧ w.cell? ⟨nb, no + j * 3 + 1, none⟩ = some (.float .f64 ns[j].y) ∧ w.cell? ⟨nb, no + j * 3 + 2, none⟩ = some (.float .f64 ns[j].z))
    (he : EdgesAt w ea es) (hp : boxedO p.ab (K 4607182418800017408) = true) :
    Calls Try.prog 26 #[.slice (some ⟨vb, vo, none⟩) vs.length vc, .slice (some ⟨nb, no, none⟩) vs.length nc, p.val, .slice ea es.length cap] w fun e w' => e = .returned (.bool (es.any (hitK vs ns p))) ∧ Below w.heap.size w w' := by
  have hB0 : Below w.heap.size w (w.alloc (.cells p.cells 31)) := (Below.refl _ _).alloc (Nat.le_refl _) _
  have hp0 : Lies (w.alloc (.cells p.cells 31)) w.heap.size p := lies_new w p 31
  have hel1 : (es.length : Int) ≤ 65536 := by omega
  have hn1 : (vs.length : Int) ≤ 16384 := by omega
  have HP : Hid (boxedO p.ab (K 4607182418800017408) = true) := hp
  clear hp
  go_enter Try.func26, Try.ntmps26
  go_wp2_with fail
  refine (boxed_any p _ _).mono ?_
  rintro e W0 ⟨rfl, hb0⟩
  rw [HP.out]
  replace hB0 := hB0.trans (hb0.mono hB0.size)
  replace hp0 := hp0.below hb0 hp0.lt
  clear hb0
  go_wp2_with fail
  go_loopw [22] (fun i wr => ∃ j : Nat, j ≤ es.length ∧ i = .int .i64 j ∧ Below W0.heap.size W0 wr ∧ (es.take j).any (hitK vs ns p) = false) (fun i _ => es.length - (intOf i).toNat)
  case atStart => exact ⟨0, Nat.zero_le _, rfl, Below.refl _ _, rfl⟩
  case round =>
    obtain ⟨j, hj, rfl, hbl, hno⟩ := hrel
    by_cases hlt : j < es.length
    · have hkm : es[j] ∈ es := List.getElem_mem hlt
      have hk : es[j] < vs.length := hek _ hkm
      have hold : Below w.heap.size w wr := hB0.trans (hbl.mono hB0.size)
      rcases he with he | ⟨eb, eo, rfl, he⟩
      · rw [he] at hlt; cases hlt
      have hm2 : (es[j] + 1) % vs.length < vs.length := Nat.mod_lt _ (by omega)
      have c1 : wr.cell? ⟨eb, eo + j, none⟩ = some (.int .i32 (es[j] : Int)) := by
        rw [hold.cell (World.block_lt_of_cell? _ _ (he j hlt))]; exact he j hlt
      have hvb : vb < w.heap.size := World.block_lt_of_cell? _ _ (hv es[j] hk).1
      have hnb : nb < w.heap.size := World.block_lt_of_cell? _ _ (hs es[j] (by omega)).1
      have a0 : wr.cell? ⟨vb, vo + es[j] * 3, none⟩ = _ := (hold.cell hvb).trans (hv es[j] hk).1
      have a1 : wr.cell? ⟨vb, vo + es[j] * 3 + 1, none⟩ = _ := (hold.cell hvb).trans (hv es[j] hk).2.1
      have a2 : wr.cell? ⟨vb, vo + es[j] * 3 + 2, none⟩ = _ := (hold.cell hvb).trans (hv es[j] hk).2.2
      have b0 : wr.cell? ⟨vb, vo + (es[j] + 1) % vs.length * 3, none⟩ = _ := (hold.cell hvb).trans (hv _ hm2).1
      have b1 : wr.cell? ⟨vb, vo + (es[j] + 1) % vs.length * 3 + 1, none⟩ = _ := (hold.cell hvb).trans (hv _ hm2).2.1
      have b2 : wr.cell? ⟨vb, vo + (es[j] + 1) % vs.length * 3 + 2, none⟩ = _ := (hold.cell hvb).trans (hv _ hm2).2.2
      have m0 : wr.cell? ⟨nb, no + es[j] * 3, none⟩ = _ := (hold.cell hnb).trans (hs es[j] (by omega)).1
      have m1 : wr.cell? ⟨nb, no + es[j] * 3 + 1, none⟩ = _ := (hold.cell hnb).trans (hs es[j] (by omega)).2.1
      have m2 : wr.cell? ⟨nb, no + es[j] * 3 + 2, none⟩ = _ := (hold.cell hnb).trans (hs es[j] (by omega)).2.2
      have HN : Hid (hitK vs ns p es[j] = hit1O p.ab (vs[es[j]]).ab (vs[(es[j] + 1) % vs.length]'hm2).ab (ns[es[j]]'(by omega)).ab) := by
        unfold Hid hitK
        rw [List.getD_eq_getElem?_getD, List.getElem?_eq_getElem hk, List.getD_eq_getElem?_getD, List.getElem?_eq_getElem hm2, List.getD_eq_getElem?_getD, List.getElem?_eq_getElem (by omega)]
        rfl
      have HT : Hid ((es.take (j + 1)).any (hitK vs ns p) = hitK vs ns p es[j]) := by
        unfold Hid
        rw [List.take_succ_eq_append_getElem hlt, List.any_append, hno]
        simp
      have HA : Hid (hitK vs ns p es[j] = true → es.any (hitK vs ns p) = true) := fun h => List.any_eq_true.2 ⟨_, hkm, h⟩
      generalize ha : vs[es[j]] = a at *
      generalize hb : vs[(es[j] + 1) % vs.length]'hm2 = b at *
      generalize hm : ns[es[j]]'(by omega) = m at *
      clear ha hb hm hno hek hkm hv hs he
      have hmod : ((es[j] : Int) + 1) % (vs.length : Int) = (((es[j] + 1) % vs.length : Nat) : Int) := by simp
      generalize (es[j] + 1) % vs.length = k2 at *
      generalize hkk : es[j] = k at *
      clear hkk
      have hp1 : Lies wr w.heap.size p := hp0.below hbl hp0.lt
      obtain ⟨p0, p1, p2⟩ := hp1.cells
      have hp1l := hp1.lt
      have hpz1 : w.heap.size < wr.heap.size + 1 := by omega
      have hpz2 : w.heap.size < wr.heap.size + 1 + 1 := by omega
      have hvz0 : vb < wr.heap.size := by have := hold.size; omega
      have hvz1 : vb < wr.heap.size + 1 := by omega
      have hnz0 : nb < wr.heap.size := by have := hold.size; omega
      have hnz1 : nb < wr.heap.size + 1 := by omega
      have hnz2 : nb < wr.heap.size + 1 + 1 := by omega
      have hk1 : (k : Int) < vs.length := by omega
      have hk0 : (0 : Int) ≤ k := by omega
      have hk21 : (k2 : Int) < vs.length := by omega
      have hk20 : (0 : Int) ≤ k2 := by omega
      have hj1 : (j : Int) < es.length := by omega
      have hv0 : ¬ vs.length = 0 := by omega
      go_wp2_with fail
      have gm : Lies (((wr.alloc (.cells a.cells 31)).alloc (.cells b.cells 31)).alloc (.cells m.cells 31)) (wr.heap.size + 1 + 1) m := by
        have := lies_new ((wr.alloc (.cells a.cells 31)).alloc (.cells b.cells 31)) m 31
        simpa using this
      have gb : Lies (((wr.alloc (.cells a.cells 31)).alloc (.cells b.cells 31)).alloc (.cells m.cells 31)) (wr.heap.size + 1) b := by
        have := lies_new (wr.alloc (.cells a.cells 31)) b 31
        exact (by simpa using this : Lies _ (wr.heap.size + 1) b).alloc _
      have ga : Lies (((wr.alloc (.cells a.cells 31)).alloc (.cells b.cells 31)).alloc (.cells m.cells 31)) wr.heap.size a := ((lies_new wr a 31).alloc _).alloc _
      have gp : Lies (((wr.alloc (.cells a.cells 31)).alloc (.cells b.cells 31)).alloc (.cells m.cells 31)) w.heap.size p := ((hp1.alloc _).alloc _).alloc _
      have gW : Below W0.heap.size W0 (((wr.alloc (.cells a.cells 31)).alloc (.cells b.cells 31)).alloc (.cells m.cells 31)) :=
        ((hbl.alloc hbl.size _).alloc (by have := hbl.size; simp; omega) _).alloc (by have := hbl.size; simp; omega) _
      generalize ((wr.alloc (.cells a.cells 31)).alloc (.cells b.cells 31)).alloc (.cells m.cells 31) = W at *
      have lm : ∀ w', Below W.heap.size W w' → Lies w' (wr.heap.size + 1 + 1) m := fun w' h => gm.below h gm.lt
      have lb : ∀ w', Below W.heap.size W w' → Lies w' (wr.heap.size + 1) b := fun w' h => gb.below h gb.lt
      have la : ∀ w', Below W.heap.size W w' → Lies w' wr.heap.size a := fun w' h => ga.below h ga.lt
      have lp : ∀ w', Below W.heap.size W w' → Lies w' w.heap.size p := fun w' h => gp.below h gp.lt
      clear gm gb ga gp a0 a1 a2 b0 b1 b2 m0 m1 m2 p0 p1 p2 c1 hp1 hmod
      refine (boxed_any a _ W).mono ?_
      rintro e w1 ⟨rfl, w1h⟩
      obtain ⟨_, _, _⟩ := (lp _ w1h).cells
      obtain ⟨_, _, _⟩ := (la _ w1h).cells
      obtain ⟨_, _, _⟩ := (lb _ w1h).cells
      obtain ⟨_, _, _⟩ := (lm _ w1h).cells
      generalize h1 : boxedO a.ab (ab 4607182418800017408) = c1
      cases c1
      ·
        go_wp2_with fail
        go_roundw
        case rel => exact ⟨j + 1, by omega, by go_num, gW.trans (w1h.mono gW.size), by rw [HT.out, HN.out]; simp [hit1O, K, h1]⟩
        case measure => simp [intOf]; omega
      go_wp2_with fail
      refine (boxed_any b _ w1).mono ?_
      rintro e w2 ⟨rfl, w2h⟩
      replace w2h := w1h.trans (w2h.mono w1h.size)
      obtain ⟨_, _, _⟩ := (lp _ w2h).cells
      obtain ⟨_, _, _⟩ := (la _ w2h).cells
      obtain ⟨_, _, _⟩ := (lb _ w2h).cells
      obtain ⟨_, _, _⟩ := (lm _ w2h).cells
      generalize h2 : boxedO b.ab (ab 4607182418800017408) = c2
      cases c2
      ·
        go_wp2_with fail
        go_roundw
        case rel => exact ⟨j + 1, by omega, by go_num, gW.trans (w2h.mono gW.size), by rw [HT.out, HN.out]; simp [hit1O, K, h1, h2]⟩
        case measure => simp [intOf]; omega
      go_wp2_with fail
      refine (boxed_any m _ w2).mono ?_
      rintro e w3 ⟨rfl, w3h⟩
      replace w3h := w2h.trans (w3h.mono w2h.size)
      obtain ⟨_, _, _⟩ := (lp _ w3h).cells
      obtain ⟨_, _, _⟩ := (la _ w3h).cells
      obtain ⟨_, _, _⟩ := (lb _ w3h).cells
      obtain ⟨_, _, _⟩ := (lm _ w3h).cells
      generalize h3 : boxedO m.ab (ab 6103021453049119613) = c3
      cases c3
      ·
        go_wp2_with fail
        go_roundw
        case rel => exact ⟨j + 1, by omega, by go_num, gW.trans (w3h.mono gW.size), by rw [HT.out, HN.out]; simp [hit1O, K, h1, h2, h3]⟩
        case measure => simp [intOf]; omega
      go_wp2_with fail
      refine (zzDot_any m m w3).mono ?_
      rintro e w4 ⟨⟨mm, rfl, emm, bmm⟩, w4h⟩
      replace w4h := w3h.trans (w4h.mono w3h.size)
      obtain ⟨_, _, _⟩ := (lp _ w4h).cells
      obtain ⟨_, _, _⟩ := (la _ w4h).cells
      obtain ⟨_, _, _⟩ := (lb _ w4h).cells
      obtain ⟨_, _, _⟩ := (lm _ w4h).cells
      have h4' : gtO (ab mm) (ab 0) = gtO (dotO m.ab m.ab) (ab 0) := by rw [emm]
      clear emm
      cases h4 : gtO (dotO m.ab m.ab) (ab 0)
      · rw [h4] at h4'
        go_wp2_with fail
        go_roundw
        case rel => exact ⟨j + 1, by omega, by go_num, gW.trans (w4h.mono gW.size), by rw [HT.out, HN.out]; simp [hit1O, K, h1, h2, h3, h4]⟩
        case measure => simp [intOf]; omega
      rw [h4] at h4'
      go_wp2_with fail
      refine (zzDot_any p m w4).mono ?_
      rintro e w5 ⟨⟨pm, rfl, epm, bpm⟩, w5h⟩
      replace w5h := w4h.trans (w5h.mono w4h.size)
      obtain ⟨_, _, _⟩ := (lp _ w5h).cells
      obtain ⟨_, _, _⟩ := (la _ w5h).cells
      obtain ⟨_, _, _⟩ := (lb _ w5h).cells
      obtain ⟨_, _, _⟩ := (lm _ w5h).cells
      have h5' : eqO (ab pm) (ab 0) = eqO (dotO p.ab m.ab) (ab 0) := by rw [epm]
      clear epm
      cases h5 : eqO (dotO p.ab m.ab) (ab 0)
      · rw [h5] at h5'
        go_wp2_with fail
        go_roundw
        case rel => exact ⟨j + 1, by omega, by go_num, gW.trans (w5h.mono gW.size), by rw [HT.out, HN.out]; simp [hit1O, K, h1, h2, h3, h4, h5]⟩
        case measure => simp [intOf]; omega
      rw [h5] at h5'
      go_wp2_with fail
      refine (same_any p a w5).mono ?_
      rintro e w6 ⟨rfl, w6h⟩
      replace w6h := w5h.trans (w6h.mono w5h.size)
      obtain ⟨_, _, _⟩ := (lp _ w6h).cells
      obtain ⟨_, _, _⟩ := (la _ w6h).cells
      obtain ⟨_, _, _⟩ := (lb _ w6h).cells
      obtain ⟨_, _, _⟩ := (lm _ w6h).cells
      generalize h6 : sameO p.ab a.ab = c6
      cases c6
      · go_wp2_with fail
        refine (same_any p b w6).mono ?_
        rintro e w7 ⟨rfl, w7h⟩
        replace w7h := w6h.trans (w7h.mono w6h.size)
        generalize h7 : sameO p.ab b.ab = c7
        cases c7
        ·
          go_wp2_with fail
          go_roundw
          case rel => exact ⟨j + 1, by omega, by go_num, gW.trans (w7h.mono gW.size), by rw [HT.out, HN.out]; simp [hit1O, K, h1, h2, h3, h4, h5, h6, h7]⟩
          case measure => simp [intOf]; omega
        · go_wp2_with fail
          go_ret
          exact ⟨by rw [HA.out (by rw [HN.out]; simp [hit1O, K, h1, h2, h3, h4, h5, h7])]; rfl, (hB0.trans (gW.mono hB0.size)).trans (w7h.mono (Nat.le_trans hB0.size gW.size))⟩
      · go_wp2_with fail
        go_ret
        exact ⟨by rw [HA.out (by rw [HN.out]; simp [hit1O, K, h1, h2, h3, h4, h5, h6])]; rfl, (hB0.trans (gW.mono hB0.size)).trans (w6h.mono (Nat.le_trans hB0.size gW.size))⟩
    · have hge : (es.length : Int) ≤ j := by omega
      have HNo : Hid ((es.take j).any (hitK vs ns p) = false) := hno
      clear hno
      go_wp2_with fail
      go_ret
      have hno := HNo.out
      rw [List.take_of_length_le (by omega)] at hno
      exact ⟨by rw [hno]; rfl, hB0.trans (hbl.mono hB0.size)⟩

end Go.Proofs.Qxb6614725a

/-
  The walk of FnNearEdgesIgnoresWhereTheRingStarts (seat b6614725a).
-/
import Derived.Test.Qxb6614725aRing
namespace Go.Proofs.Qxb6614725a
open Go.ChangeShapes Go.WideShapes Go.ChangeAt Go.RowKit Go.Flt

attribute [local go_sem] run_store_float alloc_drewN setCell_drewN

theorem size31 : (Try.prog.info? 31).map (·.size) = some 3 := by kernel_rfl

theorem getD_get {vs : List V3} {k : Nat} (h : k < vs.length) : vs.getD k V3.zero = vs[k] := by rw [List.getD_eq_getElem?_getD, List.getElem?_eq_getElem h]; rfl

theorem rot_at (vs : List V3) (n : Nat) (hl : vs.length = n) (s j : Nat) (h : j < n) : (rot vs s)[j]'(by rw [rot_length, hl]; exact h) = vs[(j + s) % n]'(by rw [hl]; exact Nat.mod_lt _ (by omega)) := by
  subst hl
  rw [rot_get, getD_get (Nat.mod_lt _ (by omega))]

set_option maxRecDepth 100000 in
set_option maxHeartbeats 8000000 in
theorem law8 (va na ea : Option Addr) (vs ns : List V3) (vc nc : Nat) (p : V3) (zs : List Int) (ec : Nat) (cut : Int) (w : World) (hv : Came w va vs) (hs : Came w na ns) (he : Ints w ea zs)
    (h1 : vs.length ≤ maxLen) (h2 : ns.length ≤ maxLen) (h3 : zs.length ≤ maxLen) (hzb : ∀ z ∈ zs, -2147483648 ≤ z ∧ z ≤ 2147483647) (hc0 : -9223372036854775808 ≤ cut) (hc1 : cut ≤ 9223372036854775807) (hec : ea = none → ec = 0)
    (hplain : ∀ k, boxedO p.ab (ab 4607182418800017408) = true → hitK vs ns p k = true → nearK vs ns p k = true) :
    Calls Try.prog 8 #[.slice va vs.length vc, .slice na ns.length nc, p.val, .slice ea zs.length ec, .int .i64 cut] w fun e w' => e = .returned (.bool true) ∧ Below w.heap.size w w' := by
  have hB0 : Below w.heap.size w (w.alloc (.cells p.cells 31)) := (Below.refl _ _).alloc (Nat.le_refl _) _
  have hp0 : Lies (w.alloc (.cells p.cells 31)) w.heap.size p := lies_new w p 31
  have H0 : Hid (∀ k, boxedO p.ab (ab 4607182418800017408) = true → hitK vs ns p k = true → nearK vs ns p k = true) := hplain
  have HZ : Hid (∀ z ∈ zs, -2147483648 ≤ z ∧ z ≤ 2147483647) := hzb
  clear hplain hzb
  go_enter Try.func8, Try.ntmps8
  go_wp2_with fail
  refine (zzb8_any va na ea _ _ _ _ _ _ p cut _ h1 h2 h3).mono ?_
  rintro e W1 ⟨⟨x, rfl⟩, hb1⟩
  have hB1 := hB0.trans (hb1.mono hB0.size)
  have hp1 := hp0.below hb1 hp0.lt
  unfold maxLen at h1 h2 h3
  clear hb1 hp0 hB0
  cases x
  · go_wp2_with fail
    go_ret
    exact ⟨rfl, hB1⟩
  by_cases l1 : 16384 < (vs.length : Int)
  · go_wp2_with fail
    go_ret
    exact ⟨rfl, hB1⟩
  by_cases l2 : 16384 < (ns.length : Int)
  · go_wp2_with fail
    go_ret
    exact ⟨rfl, hB1⟩
  by_cases l3 : 65536 < (zs.length : Int)
  · go_wp2_with fail
    go_ret
    exact ⟨rfl, hB1⟩
  by_cases l4 : ns.length = vs.length
  rotate_left
  · have l4' : ((ns.length : Int) != (vs.length : Int)) = true := by simp; omega
    go_wp2_with fail
    go_ret
    exact ⟨rfl, hB1⟩
  have hmk := fun w => run_make42' zs.length (by omega) w
  have hmv := fun w => run_make41 vs.length (by omega) w
  replace hv := hv.below hB1
  replace hs := hs.below hB1
  replace he := he.below hB1
  rw [l4]
  have l5 : vs.length ≤ 16384 := by omega
  have l6 : zs.length ≤ 65536 := by omega
  clear h1 h2 h3 l1 l2 l3
  cases ea with
  | none =>
    have hz : zs = [] := by
      rcases he with he | ⟨_, _, h, _⟩
      · exact he
      · cases h
    subst hz
    rw [hec rfl]
    have hmk0 := fun w => run_make42' 0 (by omega) w
    simp only [Int.natCast_zero] at hmk0
    have HM : Hid (∀ w, (Instr.makeSlice 42 (.int .i64 0) (.int .i64 0)).run Try.prog w = .ok (.slice (some ⟨w.heap.size, 0, none⟩) 0 0) (w.alloc (.cells (madeCells #[.int .i32 0] 0) 21))) := hmk0
    have HMV : Hid (∀ w, (Instr.makeSlice 41 (.int .i64 vs.length) (.int .i64 vs.length)).run Try.prog w = .ok (.slice (some ⟨w.heap.size, 0, none⟩) vs.length vs.length) (w.alloc (.cells (madeCells z3 (vs.length * 3)) 31))) := hmv
    simp only [List.length_nil] at *
    clear hmk hmk0 hmv hec he HZ
    go_wp2_with fail
    go_loop [55] (fun i => i = .int .i64 0) (fun _ => 0)
    case atStart => rfl
    case round =>
        subst hrel
        obtain ⟨es, hel, hE, hEk⟩ : ∃ es : List Nat, es.length = 0 ∧ EdgesAt W1 none es ∧ ∀ k ∈ es, k < vs.length := ⟨[], rfl, .inl rfl, by simp⟩
        generalize W1 = W2 at *
        by_cases hc2 : cut < 0
        · go_wp2_with fail
          go_ret
          exact ⟨rfl, hB1⟩
        by_cases hc3 : (vs.length : Int) < cut
        · have hd : decide (cut < 0) = false := by simpa using hc2
          go_wp2_with fail
          go_ret
          exact ⟨rfl, hB1⟩
        have hd : decide (cut < 0) = false := by simpa using hc2
        obtain ⟨s, rfl⟩ : ∃ s : Nat, cut = s := ⟨cut.toNat, by omega⟩
        have hsn : s ≤ vs.length := by omega
        have hmv := HMV.out
        go_wp2_with fail
        clear hmv HMV
        have e1 : (W2.alloc (.cells (madeCells z3 (vs.length * 3)) 31)).heap.size = W2.heap.size + 1 := by simp
        have hR1 : Ring ((W2.alloc (.cells (madeCells z3 (vs.length * 3)) 31)).alloc (.cells (madeCells z3 (vs.length * 3)) 31)) W2.heap.size (rot vs s) 0 :=
          Ring.start (by rw [rot_length]; exact there_below (there_made W2 z3 (vs.length * 3) 31) ((Below.refl _ _).alloc (Nat.le_refl _) _) (by simp))
        have hR2 : Ring ((W2.alloc (.cells (madeCells z3 (vs.length * 3)) 31)).alloc (.cells (madeCells z3 (vs.length * 3)) 31)) (W2.heap.size + 1) (rot ns s) 0 :=
          Ring.start (by rw [rot_length, l4, ← e1]; exact there_made (W2.alloc (.cells (madeCells z3 (vs.length * 3)) 31)) z3 (vs.length * 3) 31)
        have hBr : Below W2.heap.size W2 ((W2.alloc (.cells (madeCells z3 (vs.length * 3)) 31)).alloc (.cells (madeCells z3 (vs.length * 3)) 31)) := ((Below.refl _ _).alloc (Nat.le_refl _) _).alloc (by simp) _
        have hzr : W2.heap.size + 1 < ((W2.alloc (.cells (madeCells z3 (vs.length * 3)) 31)).alloc (.cells (madeCells z3 (vs.length * 3)) 31)).heap.size := by simp
        generalize (W2.alloc (.cells (madeCells z3 (vs.length * 3)) 31)).alloc (.cells (madeCells z3 (vs.length * 3)) 31) = W3 at *
        clear e1
        have HV2 : Hid (Came W2 va vs) := hv
        have HS2 : Hid (Came W2 na ns) := hs
        have HE2 : Hid (EdgesAt W2 none es) := hE
        have HEk : Hid (∀ k ∈ es, k < vs.length) := hEk
        have HR1 : Hid (Ring W3 W2.heap.size (rot vs s) 0) := hR1
        have HR2 : Hid (Ring W3 (W2.heap.size + 1) (rot ns s) 0) := hR2
        have HP1 : Hid (Lies W2 w.heap.size p) := hp1
        have HB1 : Hid (Below w.heap.size w W2) := hB1
        clear hv hs hE hEk hR1 hR2 hp1 hB1
        go_loopw [17] (fun i wr => ∃ j : Nat, j ≤ vs.length ∧ i = .int .i64 j ∧ Below W2.heap.size W2 wr ∧ W2.heap.size + 1 < wr.heap.size ∧ Ring wr W2.heap.size (rot vs s) j ∧ Ring wr (W2.heap.size + 1) (rot ns s) j) (fun i _ => vs.length - (intOf i).toNat)
        case atStart => exact ⟨0, Nat.zero_le _, rfl, hBr, hzr, HR1.out, HR2.out⟩
        case round =>
        obtain ⟨j2, hj2, rfl, hbl, hzw, hr1, hr2⟩ := hrel
        clear HR1 HR2 hBr hzr
        by_cases hlt : j2 < vs.length
        · have hml : (j2 + s) % vs.length < vs.length := Nat.mod_lt _ (by omega)
          have hm : ((j2 : Int) + (s : Int)) % (vs.length : Int) = (((j2 + s) % vs.length : Nat) : Int) := by simp
          have g1 : (rot vs s)[j2]'(by rw [rot_length]; exact hlt) = vs[(j2 + s) % vs.length] := rot_at vs _ rfl s j2 hlt
          have g2 : (rot ns s)[j2]'(by rw [rot_length, l4]; exact hlt) = ns[(j2 + s) % vs.length]'(by rw [l4]; exact hml) := rot_at ns _ l4 s j2 hlt
          rcases HV2.out with hv0 | ⟨vb, vo, rfl, hv⟩
          · rw [hv0] at hlt; cases hlt
          rcases HS2.out with hs0 | ⟨nb, no, rfl, hs⟩
          · rw [hs0] at l4; rw [← l4] at hlt; cases hlt
          obtain ⟨c0, c1, c2⟩ := hv _ hml
          obtain ⟨m0, m1, m2⟩ := hs _ (by rw [l4]; exact hml)
          have hvb := World.block_lt_of_cell? _ _ c0
          have hnb := World.block_lt_of_cell? _ _ m0
          simp only at hvb hnb
          generalize vs[(j2 + s) % vs.length] = q at *
          generalize ns[(j2 + s) % vs.length]'(by rw [l4]; exact hml) = u at *
          have d0 : wr.cell? ⟨vb, vo + (j2 + s) % vs.length * 3, none⟩ = some (.float .f64 q.x) := by rw [hbl.cell hvb]; exact c0
          have d1 : wr.cell? ⟨vb, vo + (j2 + s) % vs.length * 3 + 1, none⟩ = some (.float .f64 q.y) := by rw [hbl.cell hvb]; exact c1
          have d2 : wr.cell? ⟨vb, vo + (j2 + s) % vs.length * 3 + 2, none⟩ = some (.float .f64 q.z) := by rw [hbl.cell hvb]; exact c2
          obtain ⟨W4, hW4⟩ : ∃ W4, W4 = wr.setCells W2.heap.size (j2 * 3) q.cells.toList := ⟨_, rfl⟩
          have HW4 : Hid (W4 = wr.setCells W2.heap.size (j2 * 3) q.cells.toList) := hW4
          clear hW4
          have hB4 : Below W2.heap.size W2 W4 := by rw [HW4.out]; exact below_setCells _ (Nat.le_refl _) _ _ hbl
          have hz4 : W2.heap.size + 1 < W4.heap.size := by rw [HW4.out]; exact Nat.lt_of_lt_of_le hzw (below_setCells (B := 0) W2.heap.size (Nat.zero_le _) q.cells.toList (j2 * 3) (Below.refl 0 wr)).size
          have f0 : W4.cell? ⟨nb, no + (j2 + s) % vs.length * 3, none⟩ = some (.float .f64 u.x) := by rw [hB4.cell hnb]; exact m0
          have f1 : W4.cell? ⟨nb, no + (j2 + s) % vs.length * 3 + 1, none⟩ = some (.float .f64 u.y) := by rw [hB4.cell hnb]; exact m1
          have f2 : W4.cell? ⟨nb, no + (j2 + s) % vs.length * 3 + 2, none⟩ = some (.float .f64 u.z) := by rw [hB4.cell hnb]; exact m2
          have t1 := hr1.part (by rw [rot_length]; exact hlt)
          have s1 : Ring W4 W2.heap.size (rot vs s) (j2 + 1) := by rw [HW4.out]; exact hr1.store (by rw [rot_length]; exact hlt) q g1
          have s2 : Ring W4 (W2.heap.size + 1) (rot ns s) j2 := by rw [HW4.out]; exact hr2.apart (by omega)
          have t2 := s2.part (by rw [rot_length, l4]; exact hlt)
          have S1 : Hid (Ring W4 W2.heap.size (rot vs s) (j2 + 1)) := s1
          have S2 : Hid (Ring W4 (W2.heap.size + 1) (rot ns s) j2) := s2
          have G2 : Hid ((rot ns s)[j2]'(by rw [rot_length, l4]; exact hlt) = u) := g2
          have T1 : Hid (wr.there W2.heap.size (j2 * 3) 3) := t1
          have T2 : Hid (W4.there (W2.heap.size + 1) (j2 * 3) 3) := t2
          have hj1 : (j2 : Int) < vs.length := by omega
          have hk1 : (((j2 + s) % vs.length : Nat) : Int) < vs.length := by omega
          have hk0 : (0 : Int) ≤ (((j2 + s) % vs.length : Nat) : Int) := by omega
          have hn1 : (vs.length : Int) ≤ 16384 := by omega
          have hs1 : (s : Int) ≤ 16384 := by omega
          have hn0 : ¬ vs.length = 0 := by omega
          clear c0 c1 c2 m0 m1 m2 hv hs hr1 hr2 g1 g2 s1 s2 t1 t2 HV2 HS2
          generalize (j2 + s) % vs.length = m at *
          go_wp2_with (first
            | (refine wpList_store_mid rfl 31 _ _ rfl W2.heap.size (j2 * 3) q.cells (by rfl) (by rfl) T1.out size31 (one3 q) ?_; rw [← HW4.out])
            | (refine wpList_store_mid rfl 31 _ _ rfl (W2.heap.size + 1) (j2 * 3) u.cells (by rfl) (by rfl) T2.out size31 (one3 u) ?_))
          go_roundw
          case rel => exact ⟨j2 + 1, by omega, by go_num, below_setCells _ (by omega) _ _ hB4, Nat.lt_of_lt_of_le hz4 (below_setCells (B := 0) (W2.heap.size + 1) (Nat.zero_le _) u.cells.toList (j2 * 3) (Below.refl 0 W4)).size, S1.out.apart (by omega), S2.out.store (by rw [rot_length, l4]; exact hlt) u G2.out⟩
          case measure => simp [intOf]; omega
        have hge2 : (vs.length : Int) ≤ j2 := by omega
        have hVs : VecsAt wr W2.heap.size (rot vs s) := hr1.done (by rw [rot_length]; omega)
        have hNs : VecsAt wr (W2.heap.size + 1) (rot ns s) := hr2.done (by rw [rot_length, l4]; omega)
        have HVs : Hid (VecsAt wr W2.heap.size (rot vs s)) := hVs
        have HNs : Hid (VecsAt wr (W2.heap.size + 1) (rot ns s)) := hNs
        clear hr1 hr2 hVs hNs
        generalize wr = W5 at *
        have hmk := HM.out
        go_wp2_with fail
        clear hmk HM
        have hLt : (W5.alloc (.cells (madeCells #[.int .i32 0] 0) 21)).there W5.heap.size 0 0 := there_made W5 #[.int .i32 0] 0 21
        have hL0 : Line (W5.alloc (.cells (madeCells #[.int .i32 0] 0) 21)) W5.heap.size (es.map (back vs.length s)) 0 := ⟨by rw [List.length_map, hel]; exact hLt, fun _ _ h => absurd h (Nat.not_lt_zero _)⟩
        have hB6 : Below W5.heap.size W5 (W5.alloc (.cells (madeCells #[.int .i32 0] 0) 21)) := (Below.refl _ _).alloc (Nat.le_refl _) _
        have hz6 : W5.heap.size < (W5.alloc (.cells (madeCells #[.int .i32 0] 0) 21)).heap.size := by simp
        generalize W5.alloc (.cells (madeCells #[.int .i32 0] 0) 21) = W6 at *
        have HL0 : Hid (Line W6 W5.heap.size (es.map (back vs.length s)) 0) := hL0
        clear hL0 hLt
        go_loopw [115] (fun i wr => ∃ j : Nat, j ≤ 0 ∧ i = .int .i64 j ∧ Below W5.heap.size W5 wr ∧ W5.heap.size < wr.heap.size ∧ Line wr W5.heap.size (es.map (back vs.length s)) j) (fun i _ => 0 - (intOf i).toNat)
        case atStart => exact ⟨0, Nat.zero_le _, rfl, hB6, hz6, HL0.out⟩
        case round =>
        obtain ⟨j3, hj3, rfl, hbl3, hzw3, hl3⟩ := hrel
        clear HL0 hB6 hz6
        by_cases hlt3 : j3 < 0
        · exact absurd hlt3 (Nat.not_lt_zero _)
        have hge3 : (0 : Int) ≤ j3 := by omega
        have hRe : EdgesAt wr (some ⟨W5.heap.size, 0, none⟩) (es.map (back vs.length s)) := hl3.done (by rw [List.length_map, hel]; omega)
        have hB25 : Below W2.heap.size W2 wr := hbl.trans (hbl3.mono hbl.size)
        have hV5 : Came wr (some ⟨W2.heap.size, 0, none⟩) (rot vs s) := by
          refine .inr ⟨W2.heap.size, 0, rfl, fun j h => ?_⟩
          have := HVs.out.below hbl3 (by omega) j h
          simpa using this
        have hN5 : Came wr (some ⟨W2.heap.size + 1, 0, none⟩) (rot ns s) := by
          refine .inr ⟨W2.heap.size + 1, 0, rfl, fun j h => ?_⟩
          have := HNs.out.below hbl3 (by omega) j h
          simpa using this
        have hE5 := HE2.out.below hB25
        have hv5 := HV2.out.below hB25
        have hs5 := HS2.out.below hB25
        have hp5 := HP1.out.below hB25 HP1.out.lt
        have hB5 := HB1.out.trans (hB25.mono HB1.out.size)
        clear hl3 HVs HNs HE2 HV2 HS2 HP1 HB1 hbl hbl3 hB25 hzw3 hzw
        generalize W2.heap.size = rb at *
        generalize W5.heap.size = cb at *
        generalize wr = W6' at *
        have HRe : Hid (EdgesAt W6' (some ⟨cb, 0, none⟩) (es.map (back vs.length s))) := hRe
        have HV5 : Hid (Came W6' (some ⟨rb, 0, none⟩) (rot vs s)) := hV5
        have HN5 : Hid (Came W6' (some ⟨rb + 1, 0, none⟩) (rot ns s)) := hN5
        have HE5 : Hid (EdgesAt W6' none es) := hE5
        have Hv5 : Hid (Came W6' va vs) := hv5
        have Hs5 : Hid (Came W6' na ns) := hs5
        obtain ⟨q0, q1, q2⟩ := hp5.cells
        clear hRe hV5 hN5 hE5 hv5 hs5
        go_wp2_with fail
        refine (zzVec_any p W6').mono ?_
        rintro e W7' ⟨rfl, hb7⟩
        go_wp2_with fail
        have hq : Lies (W7'.alloc (.cells p.cells 49)) W7'.heap.size p := lies_new W7' p 49
        have hB7 : Below W6'.heap.size W6' (W7'.alloc (.cells p.cells 49)) := hb7.alloc hb7.size _
        generalize W7'.alloc (.cells p.cells 49) = W7 at *
        generalize W7'.heap.size = qb at *
        clear q0 q1 q2 hb7
        have hRe := HRe.out.below hB7
        have hV5 := HV5.out.below hB7
        have hN5 := HN5.out.below hB7
        have hE5 := HE5.out.below hB7
        have hv5 := Hv5.out.below hB7
        have hs5 := Hs5.out.below hB7
        have hp7 := hp5.below hB7 hp5.lt
        have hB8 := hB5.trans (hB7.mono hB5.size)
        clear HRe HV5 HN5 HE5 Hv5 Hs5 hp5 hB5 hB7
        have hEk := HEk.out
        have hrl : (es.map (back vs.length s)).length = 0 := by rw [List.length_map, hel]
        have hrk : ∀ k ∈ es.map (back vs.length s), k < (rot vs s).length := by
          intro k hk
          obtain ⟨e, he, rfl⟩ := List.mem_map.1 hk
          rw [rot_length]
          exact back_lt (hEk e he)
        have hrot := any_rot p (s := s) l4 hEk hsn
        have HF : Hid ((boxedO p.ab (ab 4607182418800017408) && es.any (hitK vs ns p)) = true → es.any (nearK vs ns p) = true) := by
          intro h
          rw [Bool.and_eq_true, List.any_eq_true] at h
          obtain ⟨h1, k, hk, h2⟩ := h
          exact List.any_eq_true.2 ⟨k, hk, H0.out k h1 h2⟩
        clear HEk H0
        have lq : ∀ w', Below W7.heap.size W7 w' → Lies w' qb p := fun w' h => hq.below h hq.lt
        have call1 : ∀ w', Below W7.heap.size W7 w' → Calls Try.prog 23 #[.slice va vs.length vc] w' fun e w'' => ∃ v, e = .returned v ∧ (∃ a', v = .slice a' vs.length vs.length ∧ RowOf w'' a' vs) ∧ Loose2.S w' w'' :=
          fun w' h => (vecs_came va vs vc w' l5 (hv5.below h)).mono fun _ _ ⟨⟨a', he, hr⟩, hb⟩ => ⟨_, he, ⟨a', rfl, hr⟩, hb⟩
        have call2 : ∀ w', Below W7.heap.size W7 w' → Calls Try.prog 23 #[.slice na vs.length nc] w' fun e w'' => ∃ v, e = .returned v ∧ (∃ a', v = .slice a' vs.length vs.length ∧ RowOf w'' a' ns) ∧ Loose2.S w' w'' := by
          intro w' h
          have := vecs_came na ns nc w' (by omega) (hs5.below h)
          rw [l4] at this
          exact this.mono fun _ _ ⟨⟨a', he, hr⟩, hb⟩ => ⟨_, he, ⟨a', rfl, hr⟩, hb⟩
        have call4 : ∀ pb w', Below W7.heap.size W7 w' → PolyAt w' pb vs ns → Calls Try.prog 25 #[.pointer (some ⟨pb, 0, none⟩), p.val, .slice none 0 0] w' fun e w'' => ∃ v, e = .returned v ∧ v = .bool (es.any (nearK vs ns p)) ∧ Loose2.S w' w'' := by
          intro pb w' h hP
          have := znear_any pb vs ns p none es 0 w' l4 l5 (by omega) hEk hP (hE5.below h)
          rw [hel] at this
          exact this.mono fun _ _ ⟨he, hb⟩ => ⟨_, he, rfl, hb⟩
        have call5 : ∀ w', Below W7.heap.size W7 w' → Calls Try.prog 23 #[.slice (some ⟨rb, 0, none⟩) vs.length vs.length] w' fun e w'' => ∃ v, e = .returned v ∧ (∃ a', v = .slice a' vs.length vs.length ∧ RowOf w'' a' (rot vs s)) ∧ Loose2.S w' w'' := by
          intro w' h
          have := vecs_came (some ⟨rb, 0, none⟩) (rot vs s) vs.length w' (by rw [rot_length]; exact l5) (hV5.below h)
          rw [rot_length] at this
          exact this.mono fun _ _ ⟨⟨a', he, hr⟩, hb⟩ => ⟨_, he, ⟨a', rfl, hr⟩, hb⟩
        have call6 : ∀ w', Below W7.heap.size W7 w' → Calls Try.prog 23 #[.slice (some ⟨rb + 1, 0, none⟩) vs.length vs.length] w' fun e w'' => ∃ v, e = .returned v ∧ (∃ a', v = .slice a' vs.length vs.length ∧ RowOf w'' a' (rot ns s)) ∧ Loose2.S w' w'' := by
          intro w' h
          have := vecs_came (some ⟨rb + 1, 0, none⟩) (rot ns s) vs.length w' (by rw [rot_length, l4]; exact l5) (hN5.below h)
          rw [rot_length, l4] at this
          exact this.mono fun _ _ ⟨⟨a', he, hr⟩, hb⟩ => ⟨_, he, ⟨a', rfl, hr⟩, hb⟩
        have call8 : ∀ pb w', Below W7.heap.size W7 w' → PolyAt w' pb (rot vs s) (rot ns s) → Calls Try.prog 25 #[.pointer (some ⟨pb, 0, none⟩), p.val, .slice (some ⟨cb, 0, none⟩) 0 0] w' fun e w'' => ∃ v, e = .returned v ∧ v = .bool (es.any (nearK vs ns p)) ∧ Loose2.S w' w'' := by
          intro pb w' h hP
          have := znear_any pb (rot vs s) (rot ns s) p (some ⟨cb, 0, none⟩) (es.map (back vs.length s)) 0 w' (by rw [rot_length, rot_length, l4]) (by rw [rot_length]; exact l5) (by rw [hrl]; omega) hrk hP (hRe.below h)
          rw [hrl, hrot] at this
          exact this.mono fun _ _ ⟨he, hb⟩ => ⟨_, he, rfl, hb⟩
        have hhit : ∀ w', Below W7.heap.size W7 w' → Calls Try.prog 26 #[.slice va vs.length vc, .slice na vs.length nc, p.val, .slice none 0 0] w' fun e w'' => e = .returned (.bool (boxedO p.ab (ab 4607182418800017408) && es.any (hitK vs ns p))) ∧ Below w'.heap.size w' w'' := by
          intro w' h
          have := hit_any va na vs ns vc nc p none es 0 w' l4 l5 (by omega) hEk (hv5.below h) (hs5.below h) (hE5.below h)
          rw [hel] at this
          exact this
        clear hRe hV5 hN5 hE5 hv5 hs5 hrl hrk hrot hq hEk
        generalize es.any (nearK vs ns p) = r0 at *
        generalize (boxedO p.ab (ab 4607182418800017408) && es.any (hitK vs ns p)) = hh at *
        refine Loose2.wp_region [.pure (· = .slice va vs.length vc), .call (fun v w' => ∃ a', v = .slice a' vs.length vs.length ∧ RowOf w' a' vs), .pure (· = .slice na vs.length nc), .call (fun v w' => ∃ a', v = .slice a' vs.length vs.length ∧ RowOf w' a' ns),
          .call (fun v w' => ∃ pb, v = .pointer (some ⟨pb, 0, none⟩) ∧ PolyAt w' pb vs ns), .pure (· = p.val), .pure (· = .slice none 0 0), .call (fun v _ => v = .bool r0), .pure (· = .bool r0)] (by kernel_rfl) (by kernel_rfl) (by kernel_rfl) ?_
        have hd7 : Below W7.heap.size W7 W7.drew := (Below.refl _ _).drew
        refine Loose2.wpL_pure (fun w1 hw1 => Loose.at_move rfl _ rfl rfl) ?_
        rintro _ rfl
        simp only [Act.put, List.setIfInBounds_toArray, List.set_cons_succ, List.set_cons_zero]
        refine Loose2.wpL_call (atC_call rfl 23 _ _ rfl _ Try.func23 (by kernel_rfl) (by kernel_rfl) #[.slice va vs.length vc] rfl (fun w' hC => call1 w' (hd7.trans (hC.mono hd7.size)))) ?_
        rintro _ A1 hA1 ⟨a1, rfl, hr1⟩
        simp only [Act.put, List.setIfInBounds_toArray, List.set_cons_succ, List.set_cons_zero]
        refine Loose2.wpL_pure (fun w1 hw1 => Loose.at_move rfl _ rfl rfl) ?_
        rintro _ rfl
        simp only [Act.put, List.setIfInBounds_toArray, List.set_cons_succ, List.set_cons_zero]
        refine Loose2.wpL_call (atC_call rfl 23 _ _ rfl _ Try.func23 (by kernel_rfl) (by kernel_rfl) #[.slice na vs.length nc] rfl (fun w' hC => call2 w' (hd7.trans ((hA1.trans hC).mono hd7.size)))) ?_
        rintro _ A2 hA2 ⟨a2, rfl, hr2⟩
        simp only [Act.put, List.setIfInBounds_toArray, List.set_cons_succ, List.set_cons_zero]
        refine Loose2.wpL_call (atC_call rfl 22 _ _ rfl _ Try.func22 (by kernel_rfl) (by kernel_rfl) #[.slice a1 vs.length vs.length, .slice a2 vs.length vs.length] rfl (fun w' hC => (newPolygon_any a1 a2 vs.length w').mono fun _ _ ⟨he, hw⟩ => ⟨_, he, ⟨_, rfl, by rw [hw]; exact poly_new w' a1 a2 vs ns l4 (hr1.below (hA2.trans hC)) (hr2.below hC)⟩, by rw [hw]; exact (Below.refl _ _).alloc (Nat.le_refl _) _⟩)) ?_
        rintro _ A3 hA3 ⟨pb, rfl, hP⟩
        simp only [Act.put, List.setIfInBounds_toArray, List.set_cons_succ, List.set_cons_zero]
        have hD3 : Below W7.heap.size W7 A3 := hd7.trans ((hA1.trans (hA2.trans hA3)).mono hd7.size)
        refine Loose2.wpL_pure (fun w1 hw1 => at_vec p qb rfl _ rfl rfl (fun w' h => lq w' (hd7.trans ((hw1.trans h).mono hd7.size))) rfl) ?_
        rintro _ rfl
        simp only [Act.put, List.setIfInBounds_toArray, List.set_cons_succ, List.set_cons_zero]
        refine Loose2.wpL_pure (fun w1 hw1 => Loose.at_move rfl _ rfl rfl) ?_
        rintro _ rfl
        simp only [Act.put, List.setIfInBounds_toArray, List.set_cons_succ, List.set_cons_zero]
        refine Loose2.wpL_call (atC_call rfl 25 _ _ rfl _ Try.func25 (by kernel_rfl) (by kernel_rfl) #[.pointer (some ⟨pb, 0, none⟩), p.val, .slice none 0 0] rfl (fun w' hC => call4 pb w' (hD3.trans (hC.mono hD3.size)) (hP.below l4 hC))) ?_
        rintro _ A4 hA4 rfl
        simp only [Act.put, List.setIfInBounds_toArray, List.set_cons_succ, List.set_cons_zero]
        refine Loose2.wpL_pure (fun w1 hw1 => Loose.at_assign rfl _ rfl rfl) ?_
        rintro _ rfl
        simp only [Act.put, List.setIfInBounds_toArray, List.set_cons_succ, List.set_cons_zero]
        refine Loose2.wpL_nil ?_
        intro WN hWN
        have hDN : Below W7.heap.size W7 WN := hD3.trans ((hA4.trans hWN).mono hD3.size)
        clear call1 call2 call4 hr1 hr2 hP hA1 hA2 hA3 hA4 hD3 hWN hd7
        go_wp2_with fail
        refine Loose2.wp_region [.pure (· = .slice (some ⟨rb, 0, none⟩) vs.length vs.length), .call (fun v w' => ∃ a', v = .slice a' vs.length vs.length ∧ RowOf w' a' (rot vs s)), .pure (· = .slice (some ⟨rb + 1, 0, none⟩) vs.length vs.length), .call (fun v w' => ∃ a', v = .slice a' vs.length vs.length ∧ RowOf w' a' (rot ns s)),
          .call (fun v w' => ∃ pb, v = .pointer (some ⟨pb, 0, none⟩) ∧ PolyAt w' pb (rot vs s) (rot ns s)), .pure (· = p.val), .pure (· = .slice (some ⟨cb, 0, none⟩) 0 0), .call (fun v _ => v = .bool r0), .pure (· = .bool r0)] (by kernel_rfl) (by kernel_rfl) (by kernel_rfl) ?_
        have hd8 : Below W7.heap.size W7 WN.drew := hDN.drew
        clear hDN
        refine Loose2.wpL_pure (fun w1 hw1 => Loose.at_move rfl _ rfl rfl) ?_
        rintro _ rfl
        simp only [Act.put, List.setIfInBounds_toArray, List.set_cons_succ, List.set_cons_zero]
        refine Loose2.wpL_call (atC_call rfl 23 _ _ rfl _ Try.func23 (by kernel_rfl) (by kernel_rfl) #[.slice (some ⟨rb, 0, none⟩) vs.length vs.length] rfl (fun w' hC => call5 w' (hd8.trans (hC.mono hd8.size)))) ?_
        rintro _ A1 hA1 ⟨a1, rfl, hr1⟩
        simp only [Act.put, List.setIfInBounds_toArray, List.set_cons_succ, List.set_cons_zero]
        refine Loose2.wpL_pure (fun w1 hw1 => Loose.at_move rfl _ rfl rfl) ?_
        rintro _ rfl
        simp only [Act.put, List.setIfInBounds_toArray, List.set_cons_succ, List.set_cons_zero]
        refine Loose2.wpL_call (atC_call rfl 23 _ _ rfl _ Try.func23 (by kernel_rfl) (by kernel_rfl) #[.slice (some ⟨rb + 1, 0, none⟩) vs.length vs.length] rfl (fun w' hC => call6 w' (hd8.trans ((hA1.trans hC).mono hd8.size)))) ?_
        rintro _ A2 hA2 ⟨a2, rfl, hr2⟩
        simp only [Act.put, List.setIfInBounds_toArray, List.set_cons_succ, List.set_cons_zero]
        refine Loose2.wpL_call (atC_call rfl 22 _ _ rfl _ Try.func22 (by kernel_rfl) (by kernel_rfl) #[.slice a1 vs.length vs.length, .slice a2 vs.length vs.length] rfl (fun w' hC => (newPolygon_any a1 a2 vs.length w').mono fun _ _ ⟨he, hw⟩ => ⟨_, he, ⟨_, rfl, by rw [hw, ← rot_length vs s]; exact poly_new w' a1 a2 (rot vs s) (rot ns s) (by rw [rot_length, rot_length, l4]) (hr1.below (hA2.trans hC)) (hr2.below hC)⟩, by rw [hw]; exact (Below.refl _ _).alloc (Nat.le_refl _) _⟩)) ?_
        rintro _ A3 hA3 ⟨pb, rfl, hP⟩
        simp only [Act.put, List.setIfInBounds_toArray, List.set_cons_succ, List.set_cons_zero]
        have hD3 : Below W7.heap.size W7 A3 := hd8.trans ((hA1.trans (hA2.trans hA3)).mono hd8.size)
        refine Loose2.wpL_pure (fun w1 hw1 => at_vec p qb rfl _ rfl rfl (fun w' h => lq w' (hd8.trans ((hw1.trans h).mono hd8.size))) rfl) ?_
        rintro _ rfl
        simp only [Act.put, List.setIfInBounds_toArray, List.set_cons_succ, List.set_cons_zero]
        refine Loose2.wpL_pure (fun w1 hw1 => Loose.at_move rfl _ rfl rfl) ?_
        rintro _ rfl
        simp only [Act.put, List.setIfInBounds_toArray, List.set_cons_succ, List.set_cons_zero]
        refine Loose2.wpL_call (atC_call rfl 25 _ _ rfl _ Try.func25 (by kernel_rfl) (by kernel_rfl) #[.pointer (some ⟨pb, 0, none⟩), p.val, .slice (some ⟨cb, 0, none⟩) 0 0] rfl (fun w' hC => call8 pb w' (hD3.trans (hC.mono hD3.size)) (hP.below (by rw [rot_length, rot_length, l4]) hC))) ?_
        rintro _ A4 hA4 rfl
        simp only [Act.put, List.setIfInBounds_toArray, List.set_cons_succ, List.set_cons_zero]
        refine Loose2.wpL_pure (fun w1 hw1 => Loose.at_assign rfl _ rfl rfl) ?_
        rintro _ rfl
        simp only [Act.put, List.setIfInBounds_toArray, List.set_cons_succ, List.set_cons_zero]
        refine Loose2.wpL_nil ?_
        intro WN hWN
        have hDN : Below W7.heap.size W7 WN := hD3.trans ((hA4.trans hWN).mono hD3.size)
        clear call5 call6 call8 hr1 hr2 hP hA1 hA2 hA3 hA4 hD3 hWN hd8 lq
        obtain ⟨q0, q1, q2⟩ := (hp7.below hDN hp7.lt).cells
        have hBN := hB8.trans (hDN.mono hB8.size)
        have HH : Hid (∀ w', Below W7.heap.size W7 w' → Calls Try.prog 26 #[.slice va vs.length vc, .slice na vs.length nc, p.val, .slice none 0 0] w' fun e w'' => e = .returned (.bool hh) ∧ Below w'.heap.size w' w'') := hhit
        have HF' := HF.out
        clear HF hhit
        cases r0
        · cases hh
          · clear HF'
            go_wp2_with fail
            refine (HH.out _ hDN).mono ?_
            rintro e WE ⟨rfl, hbE⟩
            go_wp2_with fail
            go_ret
            exact ⟨rfl, hBN.trans (hbE.mono hBN.size)⟩
          · exact absurd (HF' rfl) Bool.false_ne_true
        · clear HF'
          go_wp2_with fail
          refine (HH.out _ hDN).mono ?_
          rintro e WE ⟨rfl, hbE⟩
          cases hh
          all_goals
            go_wp2_with fail
            go_ret
            exact ⟨rfl, hBN.trans (hbE.mono hBN.size)⟩
  | some a =>
    obtain ⟨W2, hcp, hcB, hcI, hcz⟩ := run_copy42 3 a zs ec W1 he l6
    have HM : Hid (∀ w, (Instr.makeSlice 42 (.int .i64 zs.length) (.int .i64 zs.length)).run Try.prog w = .ok (.slice (some ⟨w.heap.size, 0, none⟩) zs.length zs.length) (w.alloc (.cells (madeCells #[.int .i32 0] zs.length) 21))) := hmk
    have HMV : Hid (∀ w, (Instr.makeSlice 41 (.int .i64 vs.length) (.int .i64 vs.length)).run Try.prog w = .ok (.slice (some ⟨w.heap.size, 0, none⟩) vs.length vs.length) (w.alloc (.cells (madeCells z3 (vs.length * 3)) 31))) := hmv
    clear hmv
    go_wp2_with (refine Lib.wpList_copy_run _ rfl _ _ 42 42 rfl _ _ rfl rfl hcp ?_)
    replace hp1 := hp1.below hcB hp1.lt
    replace hv := hv.below hcB
    replace hs := hs.below hcB
    replace hB1 := hB1.trans (hcB.mono hB1.size)
    have hci : ∀ j (h : j < zs.length), W2.cell? ⟨W1.heap.size, j, none⟩ = some (.int .i32 zs[j]) := by
      intro j h
      rcases hcI with rfl | ⟨b, off, hb, hcI⟩
      · cases h
      · cases hb
        have := hcI j h
        simpa using this
    clear hcp hcB hmk he hcI
    generalize W1.heap.size = ob at *
    go_loop [55] (fun i => ∃ j : Nat, j ≤ zs.length ∧ i = .int .i64 j ∧ ∀ t (h : t < zs.length), t < j → 0 ≤ zs[t] ∧ zs[t] < vs.length) (fun i => zs.length - (intOf i).toNat)
    case atStart => exact ⟨0, Nat.zero_le _, rfl, fun t h ht => by omega⟩
    case round =>
      obtain ⟨j, hj, rfl, hin⟩ := hrel
      have HI : Hid (∀ t (h : t < zs.length), t < j → 0 ≤ zs[t] ∧ zs[t] < vs.length) := hin
      clear hin
      by_cases hlt : j < zs.length
      · have c1 := hci j hlt
        obtain ⟨hz0, hz1⟩ := HZ.out zs[j] (List.getElem_mem hlt)
        have HE : Hid (∀ z, z = zs[j] → 0 ≤ z → z < vs.length → ∀ t (h : t < zs.length), t < j + 1 → 0 ≤ zs[t] ∧ zs[t] < vs.length) := by
          intro z ez h0 h1 t h ht
          by_cases e : t = j
          · subst e; rw [← ez]; exact ⟨h0, h1⟩
          · exact HI.out t h (by omega)
        have HC : Hid (∀ j (h : j < zs.length), W2.cell? ⟨ob, j, none⟩ = some (.int .i32 zs[j])) := hci
        clear hci
        replace HE := HE.out _ rfl
        generalize zs[j] = z at *
        have HE' : Hid (0 ≤ z → z < vs.length → ∀ t (h : t < zs.length), t < j + 1 → 0 ≤ zs[t] ∧ zs[t] < vs.length) := HE
        clear HE
        have hj1 : (j : Int) < zs.length := by omega
        by_cases hneg : z < 0
        · go_wp2_with fail
          go_ret
          exact ⟨rfl, hB1⟩
        · by_cases hbig : (vs.length : Int) ≤ z
          · have hd : decide (z < 0) = false := by simpa using hneg
            go_wp2_with fail
            go_ret
            exact ⟨rfl, hB1⟩
          · have hd : decide (z < 0) = false := by simpa using hneg
            go_wp2_with fail
            go_round
            case rel => exact ⟨j + 1, by omega, by go_num, HE'.out (by omega) (by omega)⟩
            case measure => simp [intOf]; omega
      · have hge : (zs.length : Int) ≤ j := by omega
        have hel : (zs.map Int.toNat).length = zs.length := by simp
        have hE : EdgesAt W2 (some ⟨ob, 0, none⟩) (zs.map Int.toNat) := by
          refine .inr ⟨ob, 0, rfl, fun t ht => ?_⟩
          have ht' : t < zs.length := by simpa using ht
          have := HI.out t ht' (by omega)
          rw [Nat.zero_add, hci t ht', List.getElem_map, Int.toNat_of_nonneg this.1]
        have hEk : ∀ k ∈ zs.map Int.toNat, k < vs.length := by
          intro k hk
          obtain ⟨z, hz, rfl⟩ := List.mem_map.1 hk
          obtain ⟨t, ht, rfl⟩ := List.getElem_of_mem hz
          have := HI.out t ht (by omega)
          omega
        clear hci HI HZ
        generalize zs.map Int.toNat = es at *
        by_cases hc2 : cut < 0
        · go_wp2_with fail
          go_ret
          exact ⟨rfl, hB1⟩
        by_cases hc3 : (vs.length : Int) < cut
        · have hd : decide (cut < 0) = false := by simpa using hc2
          go_wp2_with fail
          go_ret
          exact ⟨rfl, hB1⟩
        have hd : decide (cut < 0) = false := by simpa using hc2
        obtain ⟨s, rfl⟩ : ∃ s : Nat, cut = s := ⟨cut.toNat, by omega⟩
        have hsn : s ≤ vs.length := by omega
        have hmv := HMV.out
        go_wp2_with fail
        clear hmv HMV
        have e1 : (W2.alloc (.cells (madeCells z3 (vs.length * 3)) 31)).heap.size = W2.heap.size + 1 := by simp
        have hR1 : Ring ((W2.alloc (.cells (madeCells z3 (vs.length * 3)) 31)).alloc (.cells (madeCells z3 (vs.length * 3)) 31)) W2.heap.size (rot vs s) 0 :=
          Ring.start (by rw [rot_length]; exact there_below (there_made W2 z3 (vs.length * 3) 31) ((Below.refl _ _).alloc (Nat.le_refl _) _) (by simp))
        have hR2 : Ring ((W2.alloc (.cells (madeCells z3 (vs.length * 3)) 31)).alloc (.cells (madeCells z3 (vs.length * 3)) 31)) (W2.heap.size + 1) (rot ns s) 0 :=
          Ring.start (by rw [rot_length, l4, ← e1]; exact there_made (W2.alloc (.cells (madeCells z3 (vs.length * 3)) 31)) z3 (vs.length * 3) 31)
        have hBr : Below W2.heap.size W2 ((W2.alloc (.cells (madeCells z3 (vs.length * 3)) 31)).alloc (.cells (madeCells z3 (vs.length * 3)) 31)) := ((Below.refl _ _).alloc (Nat.le_refl _) _).alloc (by simp) _
        have hzr : W2.heap.size + 1 < ((W2.alloc (.cells (madeCells z3 (vs.length * 3)) 31)).alloc (.cells (madeCells z3 (vs.length * 3)) 31)).heap.size := by simp
        generalize (W2.alloc (.cells (madeCells z3 (vs.length * 3)) 31)).alloc (.cells (madeCells z3 (vs.length * 3)) 31) = W3 at *
        clear e1
        have HV2 : Hid (Came W2 va vs) := hv
        have HS2 : Hid (Came W2 na ns) := hs
        have HE2 : Hid (EdgesAt W2 (some ⟨ob, 0, none⟩) es) := hE
        have HEk : Hid (∀ k ∈ es, k < vs.length) := hEk
        have HR1 : Hid (Ring W3 W2.heap.size (rot vs s) 0) := hR1
        have HR2 : Hid (Ring W3 (W2.heap.size + 1) (rot ns s) 0) := hR2
        have HP1 : Hid (Lies W2 w.heap.size p) := hp1
        have HB1 : Hid (Below w.heap.size w W2) := hB1
        clear hv hs hE hEk hR1 hR2 hp1 hB1
        go_loopw [17] (fun i wr => ∃ j : Nat, j ≤ vs.length ∧ i = .int .i64 j ∧ Below W2.heap.size W2 wr ∧ W2.heap.size + 1 < wr.heap.size ∧ Ring wr W2.heap.size (rot vs s) j ∧ Ring wr (W2.heap.size + 1) (rot ns s) j) (fun i _ => vs.length - (intOf i).toNat)
        case atStart => exact ⟨0, Nat.zero_le _, rfl, hBr, hzr, HR1.out, HR2.out⟩
        case round =>
        obtain ⟨j2, hj2, rfl, hbl, hzw, hr1, hr2⟩ := hrel
        clear HR1 HR2 hBr hzr
        by_cases hlt : j2 < vs.length
        · have hml : (j2 + s) % vs.length < vs.length := Nat.mod_lt _ (by omega)
          have hm : ((j2 : Int) + (s : Int)) % (vs.length : Int) = (((j2 + s) % vs.length : Nat) : Int) := by simp
          have g1 : (rot vs s)[j2]'(by rw [rot_length]; exact hlt) = vs[(j2 + s) % vs.length] := rot_at vs _ rfl s j2 hlt
          have g2 : (rot ns s)[j2]'(by rw [rot_length, l4]; exact hlt) = ns[(j2 + s) % vs.length]'(by rw [l4]; exact hml) := rot_at ns _ l4 s j2 hlt
          rcases HV2.out with hv0 | ⟨vb, vo, rfl, hv⟩
          · rw [hv0] at hlt; cases hlt
          rcases HS2.out with hs0 | ⟨nb, no, rfl, hs⟩
          · rw [hs0] at l4; rw [← l4] at hlt; cases hlt
          obtain ⟨c0, c1, c2⟩ := hv _ hml
          obtain ⟨m0, m1, m2⟩ := hs _ (by rw [l4]; exact hml)
          have hvb := World.block_lt_of_cell? _ _ c0
          have hnb := World.block_lt_of_cell? _ _ m0
          simp only at hvb hnb
          generalize vs[(j2 + s) % vs.length] = q at *
          generalize ns[(j2 + s) % vs.length]'(by rw [l4]; exact hml) = u at *
          have d0 : wr.cell? ⟨vb, vo + (j2 + s) % vs.length * 3, none⟩ = some (.float .f64 q.x) := by rw [hbl.cell hvb]; exact c0
          have d1 : wr.cell? ⟨vb, vo + (j2 + s) % vs.length * 3 + 1, none⟩ = some (.float .f64 q.y) := by rw [hbl.cell hvb]; exact c1
          have d2 : wr.cell? ⟨vb, vo + (j2 + s) % vs.length * 3 + 2, none⟩ = some (.float .f64 q.z) := by rw [hbl.cell hvb]; exact c2
          obtain ⟨W4, hW4⟩ : ∃ W4, W4 = wr.setCells W2.heap.size (j2 * 3) q.cells.toList := ⟨_, rfl⟩
          have HW4 : Hid (W4 = wr.setCells W2.heap.size (j2 * 3) q.cells.toList) := hW4
          clear hW4
          have hB4 : Below W2.heap.size W2 W4 := by rw [HW4.out]; exact below_setCells _ (Nat.le_refl _) _ _ hbl
          have hz4 : W2.heap.size + 1 < W4.heap.size := by rw [HW4.out]; exact Nat.lt_of_lt_of_le hzw (below_setCells (B := 0) W2.heap.size (Nat.zero_le _) q.cells.toList (j2 * 3) (Below.refl 0 wr)).size
          have f0 : W4.cell? ⟨nb, no + (j2 + s) % vs.length * 3, none⟩ = some (.float .f64 u.x) := by rw [hB4.cell hnb]; exact m0
          have f1 : W4.cell? ⟨nb, no + (j2 + s) % vs.length * 3 + 1, none⟩ = some (.float .f64 u.y) := by rw [hB4.cell hnb]; exact m1
          have f2 : W4.cell? ⟨nb, no + (j2 + s) % vs.length * 3 + 2, none⟩ = some (.float .f64 u.z) := by rw [hB4.cell hnb]; exact m2
          have t1 := hr1.part (by rw [rot_length]; exact hlt)
          have s1 : Ring W4 W2.heap.size (rot vs s) (j2 + 1) := by rw [HW4.out]; exact hr1.store (by rw [rot_length]; exact hlt) q g1
          have s2 : Ring W4 (W2.heap.size + 1) (rot ns s) j2 := by rw [HW4.out]; exact hr2.apart (by omega)
          have t2 := s2.part (by rw [rot_length, l4]; exact hlt)
          have S1 : Hid (Ring W4 W2.heap.size (rot vs s) (j2 + 1)) := s1
          have S2 : Hid (Ring W4 (W2.heap.size + 1) (rot ns s) j2) := s2
          have G2 : Hid ((rot ns s)[j2]'(by rw [rot_length, l4]; exact hlt) = u) := g2
          have T1 : Hid (wr.there W2.heap.size (j2 * 3) 3) := t1
          have T2 : Hid (W4.there (W2.heap.size + 1) (j2 * 3) 3) := t2
          have hj1 : (j2 : Int) < vs.length := by omega
          have hk1 : (((j2 + s) % vs.length : Nat) : Int) < vs.length := by omega
          have hk0 : (0 : Int) ≤ (((j2 + s) % vs.length : Nat) : Int) := by omega
          have hn1 : (vs.length : Int) ≤ 16384 := by omega
          have hs1 : (s : Int) ≤ 16384 := by omega
          have hn0 : ¬ vs.length = 0 := by omega
          clear c0 c1 c2 m0 m1 m2 hv hs hr1 hr2 g1 g2 s1 s2 t1 t2 HV2 HS2
          generalize (j2 + s) % vs.length = m at *
          go_wp2_with (first
            | (refine wpList_store_mid rfl 31 _ _ rfl W2.heap.size (j2 * 3) q.cells (by rfl) (by rfl) T1.out size31 (one3 q) ?_; rw [← HW4.out])
            | (refine wpList_store_mid rfl 31 _ _ rfl (W2.heap.size + 1) (j2 * 3) u.cells (by rfl) (by rfl) T2.out size31 (one3 u) ?_))
          go_roundw
          case rel => exact ⟨j2 + 1, by omega, by go_num, below_setCells _ (by omega) _ _ hB4, Nat.lt_of_lt_of_le hz4 (below_setCells (B := 0) (W2.heap.size + 1) (Nat.zero_le _) u.cells.toList (j2 * 3) (Below.refl 0 W4)).size, S1.out.apart (by omega), S2.out.store (by rw [rot_length, l4]; exact hlt) u G2.out⟩
          case measure => simp [intOf]; omega
        have hge2 : (vs.length : Int) ≤ j2 := by omega
        have hVs : VecsAt wr W2.heap.size (rot vs s) := hr1.done (by rw [rot_length]; omega)
        have hNs : VecsAt wr (W2.heap.size + 1) (rot ns s) := hr2.done (by rw [rot_length, l4]; omega)
        have HVs : Hid (VecsAt wr W2.heap.size (rot vs s)) := hVs
        have HNs : Hid (VecsAt wr (W2.heap.size + 1) (rot ns s)) := hNs
        clear hr1 hr2 hVs hNs
        generalize wr = W5 at *
        have hmk := HM.out
        go_wp2_with fail
        clear hmk HM
        have hLt : (W5.alloc (.cells (madeCells #[.int .i32 0] zs.length) 21)).there W5.heap.size 0 zs.length := there_made W5 #[.int .i32 0] zs.length 21
        have hL0 : Line (W5.alloc (.cells (madeCells #[.int .i32 0] zs.length) 21)) W5.heap.size (es.map (back vs.length s)) 0 := ⟨by rw [List.length_map, hel]; exact hLt, fun _ _ h => absurd h (Nat.not_lt_zero _)⟩
        have hB6 : Below W5.heap.size W5 (W5.alloc (.cells (madeCells #[.int .i32 0] zs.length) 21)) := (Below.refl _ _).alloc (Nat.le_refl _) _
        have hz6 : W5.heap.size < (W5.alloc (.cells (madeCells #[.int .i32 0] zs.length) 21)).heap.size := by simp
        generalize W5.alloc (.cells (madeCells #[.int .i32 0] zs.length) 21) = W6 at *
        have HL0 : Hid (Line W6 W5.heap.size (es.map (back vs.length s)) 0) := hL0
        clear hL0 hLt
        go_loopw [115] (fun i wr => ∃ j : Nat, j ≤ zs.length ∧ i = .int .i64 j ∧ Below W5.heap.size W5 wr ∧ W5.heap.size < wr.heap.size ∧ Line wr W5.heap.size (es.map (back vs.length s)) j) (fun i _ => zs.length - (intOf i).toNat)
        case atStart => exact ⟨0, Nat.zero_le _, rfl, hB6, hz6, HL0.out⟩
        case round =>
        obtain ⟨j3, hj3, rfl, hbl3, hzw3, hl3⟩ := hrel
        clear HL0 hB6 hz6
        by_cases hlt3 : j3 < zs.length
        · skip
          rcases HE2.out with he0 | ⟨eb, eo, heb, he⟩
          · rw [he0] at hel; simp at hel; omega
          cases heb
          have hje : j3 < es.length := by omega
          have c1 := he j3 hje
          have hob := World.block_lt_of_cell? _ _ c1
          simp only at hob
          have hen : es[j3] < vs.length := HEk.out _ (List.getElem_mem hje)
          have hgm : (es.map (back vs.length s))[j3]'(by rw [List.length_map]; exact hje) = back vs.length s es[j3] := by simp
          have d1 : wr.cell? ⟨ob, j3, none⟩ = some (.int .i32 (es[j3] : Int)) := by rw [hbl3.cell (show ob < W5.heap.size by have := hbl.size; omega), hbl.cell hob]; simpa using c1
          generalize es[j3] = e at *
          have hbk : back vs.length s e < vs.length := back_lt hen
          have hcv := fun w => conv213 e (by omega) w
          have hcw := fun w => conv321 (back vs.length s e) (by omega) w
          have hm : ((e : Int) - (s : Int) + (vs.length : Int)) % (vs.length : Int) = ((back vs.length s e : Nat) : Int) := by
            unfold back
            rw [show ((e : Int) - (s : Int) + (vs.length : Int)) = ((e + vs.length - s : Nat) : Int) by omega]
            simp
          have hm0 : (0 : Int) ≤ (e : Int) - (s : Int) + (vs.length : Int) := by omega
          obtain ⟨hcs, hfz⟩ := hl3.1 j3 (by rw [List.length_map]; exact hje)
          rw [Nat.zero_add] at hcs hfz
          obtain ⟨cv, hcv0⟩ := Option.isSome_iff_exists.1 hcs
          have HL3 : Hid (Line wr W5.heap.size (es.map (back vs.length s)) j3) := hl3
          have HG : Hid ((es.map (back vs.length s))[j3]'(by rw [List.length_map]; exact hje) = back vs.length s e) := hgm
          have hj31 : (j3 : Int) < zs.length := by omega
          have hn1 : (vs.length : Int) ≤ 16384 := by omega
          have hs1 : (s : Int) ≤ 16384 := by omega
          have he1 : (e : Int) ≤ 16384 := by omega
          have hn0 : ¬ vs.length = 0 := by omega
          clear hl3 hgm hcs c1 he HE2
          generalize back vs.length s e = k at *
          go_wp2_with fail
          go_roundw
          case rel => exact ⟨j3 + 1, by omega, by go_num, hbl3.setCell (Nat.le_refl _) _, by simpa using hzw3, HL3.out.store (by rw [List.length_map]; exact hje) _ HG.out⟩
          case measure => simp [intOf]; omega
        have hge3 : (zs.length : Int) ≤ j3 := by omega
        have hRe : EdgesAt wr (some ⟨W5.heap.size, 0, none⟩) (es.map (back vs.length s)) := hl3.done (by rw [List.length_map, hel]; omega)
        have hB25 : Below W2.heap.size W2 wr := hbl.trans (hbl3.mono hbl.size)
        have hV5 : Came wr (some ⟨W2.heap.size, 0, none⟩) (rot vs s) := by
          refine .inr ⟨W2.heap.size, 0, rfl, fun j h => ?_⟩
          have := HVs.out.below hbl3 (by omega) j h
          simpa using this
        have hN5 : Came wr (some ⟨W2.heap.size + 1, 0, none⟩) (rot ns s) := by
          refine .inr ⟨W2.heap.size + 1, 0, rfl, fun j h => ?_⟩
          have := HNs.out.below hbl3 (by omega) j h
          simpa using this
        have hE5 := HE2.out.below hB25
        have hv5 := HV2.out.below hB25
        have hs5 := HS2.out.below hB25
        have hp5 := HP1.out.below hB25 HP1.out.lt
        have hB5 := HB1.out.trans (hB25.mono HB1.out.size)
        clear hl3 HVs HNs HE2 HV2 HS2 HP1 HB1 hbl hbl3 hB25 hzw3 hzw
        generalize W2.heap.size = rb at *
        generalize W5.heap.size = cb at *
        generalize wr = W6' at *
        have HRe : Hid (EdgesAt W6' (some ⟨cb, 0, none⟩) (es.map (back vs.length s))) := hRe
        have HV5 : Hid (Came W6' (some ⟨rb, 0, none⟩) (rot vs s)) := hV5
        have HN5 : Hid (Came W6' (some ⟨rb + 1, 0, none⟩) (rot ns s)) := hN5
        have HE5 : Hid (EdgesAt W6' (some ⟨ob, 0, none⟩) es) := hE5
        have Hv5 : Hid (Came W6' va vs) := hv5
        have Hs5 : Hid (Came W6' na ns) := hs5
        obtain ⟨q0, q1, q2⟩ := hp5.cells
        clear hRe hV5 hN5 hE5 hv5 hs5
        go_wp2_with fail
        refine (zzVec_any p W6').mono ?_
        rintro e W7' ⟨rfl, hb7⟩
        go_wp2_with fail
        have hq : Lies (W7'.alloc (.cells p.cells 49)) W7'.heap.size p := lies_new W7' p 49
        have hB7 : Below W6'.heap.size W6' (W7'.alloc (.cells p.cells 49)) := hb7.alloc hb7.size _
        generalize W7'.alloc (.cells p.cells 49) = W7 at *
        generalize W7'.heap.size = qb at *
        clear q0 q1 q2 hb7
        have hRe := HRe.out.below hB7
        have hV5 := HV5.out.below hB7
        have hN5 := HN5.out.below hB7
        have hE5 := HE5.out.below hB7
        have hv5 := Hv5.out.below hB7
        have hs5 := Hs5.out.below hB7
        have hp7 := hp5.below hB7 hp5.lt
        have hB8 := hB5.trans (hB7.mono hB5.size)
        clear HRe HV5 HN5 HE5 Hv5 Hs5 hp5 hB5 hB7
        have hEk := HEk.out
        have hrl : (es.map (back vs.length s)).length = zs.length := by rw [List.length_map, hel]
        have hrk : ∀ k ∈ es.map (back vs.length s), k < (rot vs s).length := by
          intro k hk
          obtain ⟨e, he, rfl⟩ := List.mem_map.1 hk
          rw [rot_length]
          exact back_lt (hEk e he)
        have hrot := any_rot p (s := s) l4 hEk hsn
        have HF : Hid ((boxedO p.ab (ab 4607182418800017408) && es.any (hitK vs ns p)) = true → es.any (nearK vs ns p) = true) := by
          intro h
          rw [Bool.and_eq_true, List.any_eq_true] at h
          obtain ⟨h1, k, hk, h2⟩ := h
          exact List.any_eq_true.2 ⟨k, hk, H0.out k h1 h2⟩
        clear HEk H0
        have lq : ∀ w', Below W7.heap.size W7 w' → Lies w' qb p := fun w' h => hq.below h hq.lt
        have call1 : ∀ w', Below W7.heap.size W7 w' → Calls Try.prog 23 #[.slice va vs.length vc] w' fun e w'' => ∃ v, e = .returned v ∧ (∃ a', v = .slice a' vs.length vs.length ∧ RowOf w'' a' vs) ∧ Loose2.S w' w'' :=
          fun w' h => (vecs_came va vs vc w' l5 (hv5.below h)).mono fun _ _ ⟨⟨a', he, hr⟩, hb⟩ => ⟨_, he, ⟨a', rfl, hr⟩, hb⟩
        have call2 : ∀ w', Below W7.heap.size W7 w' → Calls Try.prog 23 #[.slice na vs.length nc] w' fun e w'' => ∃ v, e = .returned v ∧ (∃ a', v = .slice a' vs.length vs.length ∧ RowOf w'' a' ns) ∧ Loose2.S w' w'' := by
          intro w' h
          have := vecs_came na ns nc w' (by omega) (hs5.below h)
          rw [l4] at this
          exact this.mono fun _ _ ⟨⟨a', he, hr⟩, hb⟩ => ⟨_, he, ⟨a', rfl, hr⟩, hb⟩
        have call4 : ∀ pb w', Below W7.heap.size W7 w' → PolyAt w' pb vs ns → Calls Try.prog 25 #[.pointer (some ⟨pb, 0, none⟩), p.val, .slice (some ⟨ob, 0, none⟩) zs.length zs.length] w' fun e w'' => ∃ v, e = .returned v ∧ v = .bool (es.any (nearK vs ns p)) ∧ Loose2.S w' w'' := by
          intro pb w' h hP
          have := znear_any pb vs ns p (some ⟨ob, 0, none⟩) es zs.length w' l4 l5 (by omega) hEk hP (hE5.below h)
          rw [hel] at this
          exact this.mono fun _ _ ⟨he, hb⟩ => ⟨_, he, rfl, hb⟩
        have call5 : ∀ w', Below W7.heap.size W7 w' → Calls Try.prog 23 #[.slice (some ⟨rb, 0, none⟩) vs.length vs.length] w' fun e w'' => ∃ v, e = .returned v ∧ (∃ a', v = .slice a' vs.length vs.length ∧ RowOf w'' a' (rot vs s)) ∧ Loose2.S w' w'' := by
          intro w' h
          have := vecs_came (some ⟨rb, 0, none⟩) (rot vs s) vs.length w' (by rw [rot_length]; exact l5) (hV5.below h)
          rw [rot_length] at this
          exact this.mono fun _ _ ⟨⟨a', he, hr⟩, hb⟩ => ⟨_, he, ⟨a', rfl, hr⟩, hb⟩
        have call6 : ∀ w', Below W7.heap.size W7 w' → Calls Try.prog 23 #[.slice (some ⟨rb + 1, 0, none⟩) vs.length vs.length] w' fun e w'' => ∃ v, e = .returned v ∧ (∃ a', v = .slice a' vs.length vs.length ∧ RowOf w'' a' (rot ns s)) ∧ Loose2.S w' w'' := by
          intro w' h
          have := vecs_came (some ⟨rb + 1, 0, none⟩) (rot ns s) vs.length w' (by rw [rot_length, l4]; exact l5) (hN5.below h)
          rw [rot_length, l4] at this
          exact this.mono fun _ _ ⟨⟨a', he, hr⟩, hb⟩ => ⟨_, he, ⟨a', rfl, hr⟩, hb⟩
        have call8 : ∀ pb w', Below W7.heap.size W7 w' → PolyAt w' pb (rot vs s) (rot ns s) → Calls Try.prog 25 #[.pointer (some ⟨pb, 0, none⟩), p.val, .slice (some ⟨cb, 0, none⟩) zs.length zs.length] w' fun e w'' => ∃ v, e = .returned v ∧ v = .bool (es.any (nearK vs ns p)) ∧ Loose2.S w' w'' := by
          intro pb w' h hP
          have := znear_any pb (rot vs s) (rot ns s) p (some ⟨cb, 0, none⟩) (es.map (back vs.length s)) zs.length w' (by rw [rot_length, rot_length, l4]) (by rw [rot_length]; exact l5) (by rw [hrl]; omega) hrk hP (hRe.below h)
          rw [hrl, hrot] at this
          exact this.mono fun _ _ ⟨he, hb⟩ => ⟨_, he, rfl, hb⟩
        have hhit : ∀ w', Below W7.heap.size W7 w' → Calls Try.prog 26 #[.slice va vs.length vc, .slice na vs.length nc, p.val, .slice (some ⟨ob, 0, none⟩) zs.length zs.length] w' fun e w'' => e = .returned (.bool (boxedO p.ab (ab 4607182418800017408) && es.any (hitK vs ns p))) ∧ Below w'.heap.size w' w'' := by
          intro w' h
          have := hit_any va na vs ns vc nc p (some ⟨ob, 0, none⟩) es zs.length w' l4 l5 (by omega) hEk (hv5.below h) (hs5.below h) (hE5.below h)
          rw [hel] at this
          exact this
        clear hRe hV5 hN5 hE5 hv5 hs5 hrl hrk hrot hq hEk
        generalize es.any (nearK vs ns p) = r0 at *
        generalize (boxedO p.ab (ab 4607182418800017408) && es.any (hitK vs ns p)) = hh at *
        refine Loose2.wp_region [.pure (· = .slice va vs.length vc), .call (fun v w' => ∃ a', v = .slice a' vs.length vs.length ∧ RowOf w' a' vs), .pure (· = .slice na vs.length nc), .call (fun v w' => ∃ a', v = .slice a' vs.length vs.length ∧ RowOf w' a' ns),
          .call (fun v w' => ∃ pb, v = .pointer (some ⟨pb, 0, none⟩) ∧ PolyAt w' pb vs ns), .pure (· = p.val), .pure (· = .slice (some ⟨ob, 0, none⟩) zs.length zs.length), .call (fun v _ => v = .bool r0), .pure (· = .bool r0)] (by kernel_rfl) (by kernel_rfl) (by kernel_rfl) ?_
        have hd7 : Below W7.heap.size W7 W7.drew := (Below.refl _ _).drew
        refine Loose2.wpL_pure (fun w1 hw1 => Loose.at_move rfl _ rfl rfl) ?_
        rintro _ rfl
        simp only [Act.put, List.setIfInBounds_toArray, List.set_cons_succ, List.set_cons_zero]
        refine Loose2.wpL_call (atC_call rfl 23 _ _ rfl _ Try.func23 (by kernel_rfl) (by kernel_rfl) #[.slice va vs.length vc] rfl (fun w' hC => call1 w' (hd7.trans (hC.mono hd7.size)))) ?_
        rintro _ A1 hA1 ⟨a1, rfl, hr1⟩
        simp only [Act.put, List.setIfInBounds_toArray, List.set_cons_succ, List.set_cons_zero]
        refine Loose2.wpL_pure (fun w1 hw1 => Loose.at_move rfl _ rfl rfl) ?_
        rintro _ rfl
        simp only [Act.put, List.setIfInBounds_toArray, List.set_cons_succ, List.set_cons_zero]
        refine Loose2.wpL_call (atC_call rfl 23 _ _ rfl _ Try.func23 (by kernel_rfl) (by kernel_rfl) #[.slice na vs.length nc] rfl (fun w' hC => call2 w' (hd7.trans ((hA1.trans hC).mono hd7.size)))) ?_
        rintro _ A2 hA2 ⟨a2, rfl, hr2⟩
        simp only [Act.put, List.setIfInBounds_toArray, List.set_cons_succ, List.set_cons_zero]
        refine Loose2.wpL_call (atC_call rfl 22 _ _ rfl _ Try.func22 (by kernel_rfl) (by kernel_rfl) #[.slice a1 vs.length vs.length, .slice a2 vs.length vs.length] rfl (fun w' hC => (newPolygon_any a1 a2 vs.length w').mono fun _ _ ⟨he, hw⟩ => ⟨_, he, ⟨_, rfl, by rw [hw]; exact poly_new w' a1 a2 vs ns l4 (hr1.below (hA2.trans hC)) (hr2.below hC)⟩, by rw [hw]; exact (Below.refl _ _).alloc (Nat.le_refl _) _⟩)) ?_
        rintro _ A3 hA3 ⟨pb, rfl, hP⟩
        simp only [Act.put, List.setIfInBounds_toArray, List.set_cons_succ, List.set_cons_zero]
        have hD3 : Below W7.heap.size W7 A3 := hd7.trans ((hA1.trans (hA2.trans hA3)).mono hd7.size)
        refine Loose2.wpL_pure (fun w1 hw1 => at_vec p qb rfl _ rfl rfl (fun w' h => lq w' (hd7.trans ((hw1.trans h).mono hd7.size))) rfl) ?_
        rintro _ rfl
        simp only [Act.put, List.setIfInBounds_toArray, List.set_cons_succ, List.set_cons_zero]
        refine Loose2.wpL_pure (fun w1 hw1 => Loose.at_move rfl _ rfl rfl) ?_
        rintro _ rfl
        simp only [Act.put, List.setIfInBounds_toArray, List.set_cons_succ, List.set_cons_zero]
        refine Loose2.wpL_call (atC_call rfl 25 _ _ rfl _ Try.func25 (by kernel_rfl) (by kernel_rfl) #[.pointer (some ⟨pb, 0, none⟩), p.val, .slice (some ⟨ob, 0, none⟩) zs.length zs.length] rfl (fun w' hC => call4 pb w' (hD3.trans (hC.mono hD3.size)) (hP.below l4 hC))) ?_
        rintro _ A4 hA4 rfl
        simp only [Act.put, List.setIfInBounds_toArray, List.set_cons_succ, List.set_cons_zero]
        refine Loose2.wpL_pure (fun w1 hw1 => Loose.at_assign rfl _ rfl rfl) ?_
        rintro _ rfl
        simp only [Act.put, List.setIfInBounds_toArray, List.set_cons_succ, List.set_cons_zero]
        refine Loose2.wpL_nil ?_
        intro WN hWN
        have hDN : Below W7.heap.size W7 WN := hD3.trans ((hA4.trans hWN).mono hD3.size)
        clear call1 call2 call4 hr1 hr2 hP hA1 hA2 hA3 hA4 hD3 hWN hd7
        go_wp2_with fail
        refine Loose2.wp_region [.pure (· = .slice (some ⟨rb, 0, none⟩) vs.length vs.length), .call (fun v w' => ∃ a', v = .slice a' vs.length vs.length ∧ RowOf w' a' (rot vs s)), .pure (· = .slice (some ⟨rb + 1, 0, none⟩) vs.length vs.length), .call (fun v w' => ∃ a', v = .slice a' vs.length vs.length ∧ RowOf w' a' (rot ns s)),
          .call (fun v w' => ∃ pb, v = .pointer (some ⟨pb, 0, none⟩) ∧ PolyAt w' pb (rot vs s) (rot ns s)), .pure (· = p.val), .pure (· = .slice (some ⟨cb, 0, none⟩) zs.length zs.length), .call (fun v _ => v = .bool r0), .pure (· = .bool r0)] (by kernel_rfl) (by kernel_rfl) (by kernel_rfl) ?_
        have hd8 : Below W7.heap.size W7 WN.drew := hDN.drew
        clear hDN
        refine Loose2.wpL_pure (fun w1 hw1 => Loose.at_move rfl _ rfl rfl) ?_
        rintro _ rfl
        simp only [Act.put, List.setIfInBounds_toArray, List.set_cons_succ, List.set_cons_zero]
        refine Loose2.wpL_call (atC_call rfl 23 _ _ rfl _ Try.func23 (by kernel_rfl) (by kernel_rfl) #[.slice (some ⟨rb, 0, none⟩) vs.length vs.length] rfl (fun w' hC => call5 w' (hd8.trans (hC.mono hd8.size)))) ?_
        rintro _ A1 hA1 ⟨a1, rfl, hr1⟩
        simp only [Act.put, List.setIfInBounds_toArray, List.set_cons_succ, List.set_cons_zero]
        refine Loose2.wpL_pure (fun w1 hw1 => Loose.at_move rfl _ rfl rfl) ?_
        rintro _ rfl
        simp only [Act.put, List.setIfInBounds_toArray, List.set_cons_succ, List.set_cons_zero]
        refine Loose2.wpL_call (atC_call rfl 23 _ _ rfl _ Try.func23 (by kernel_rfl) (by kernel_rfl) #[.slice (some ⟨rb + 1, 0, none⟩) vs.length vs.length] rfl (fun w' hC => call6 w' (hd8.trans ((hA1.trans hC).mono hd8.size)))) ?_
        rintro _ A2 hA2 ⟨a2, rfl, hr2⟩
        simp only [Act.put, List.setIfInBounds_toArray, List.set_cons_succ, List.set_cons_zero]
        refine Loose2.wpL_call (atC_call rfl 22 _ _ rfl _ Try.func22 (by kernel_rfl) (by kernel_rfl) #[.slice a1 vs.length vs.length, .slice a2 vs.length vs.length] rfl (fun w' hC => (newPolygon_any a1 a2 vs.length w').mono fun _ _ ⟨he, hw⟩ => ⟨_, he, ⟨_, rfl, by rw [hw, ← rot_length vs s]; exact poly_new w' a1 a2 (rot vs s) (rot ns s) (by rw [rot_length, rot_length, l4]) (hr1.below (hA2.trans hC)) (hr2.below hC)⟩, by rw [hw]; exact (Below.refl _ _).alloc (Nat.le_refl _) _⟩)) ?_
        rintro _ A3 hA3 ⟨pb, rfl, hP⟩
        simp only [Act.put, List.setIfInBounds_toArray, List.set_cons_succ, List.set_cons_zero]
        have hD3 : Below W7.heap.size W7 A3 := hd8.trans ((hA1.trans (hA2.trans hA3)).mono hd8.size)
        refine Loose2.wpL_pure (fun w1 hw1 => at_vec p qb rfl _ rfl rfl (fun w' h => lq w' (hd8.trans ((hw1.trans h).mono hd8.size))) rfl) ?_
        rintro _ rfl
        simp only [Act.put, List.setIfInBounds_toArray, List.set_cons_succ, List.set_cons_zero]
        refine Loose2.wpL_pure (fun w1 hw1 => Loose.at_move rfl _ rfl rfl) ?_
        rintro _ rfl
        simp only [Act.put, List.setIfInBounds_toArray, List.set_cons_succ, List.set_cons_zero]
        refine Loose2.wpL_call (atC_call rfl 25 _ _ rfl _ Try.func25 (by kernel_rfl) (by kernel_rfl) #[.pointer (some ⟨pb, 0, none⟩), p.val, .slice (some ⟨cb, 0, none⟩) zs.length zs.length] rfl (fun w' hC => call8 pb w' (hD3.trans (hC.mono hD3.size)) (hP.below (by rw [rot_length, rot_length, l4]) hC))) ?_
        rintro _ A4 hA4 rfl
        simp only [Act.put, List.setIfInBounds_toArray, List.set_cons_succ, List.set_cons_zero]
        refine Loose2.wpL_pure (fun w1 hw1 => Loose.at_assign rfl _ rfl rfl) ?_
        rintro _ rfl
        simp only [Act.put, List.setIfInBounds_toArray, List.set_cons_succ, List.set_cons_zero]
        refine Loose2.wpL_nil ?_
        intro WN hWN
        have hDN : Below W7.heap.size W7 WN := hD3.trans ((hA4.trans hWN).mono hD3.size)
        clear call5 call6 call8 hr1 hr2 hP hA1 hA2 hA3 hA4 hD3 hWN hd8 lq
        obtain ⟨q0, q1, q2⟩ := (hp7.below hDN hp7.lt).cells
        have hBN := hB8.trans (hDN.mono hB8.size)
        have HH : Hid (∀ w', Below W7.heap.size W7 w' → Calls Try.prog 26 #[.slice va vs.length vc, .slice na vs.length nc, p.val, .slice (some ⟨ob, 0, none⟩) zs.length zs.length] w' fun e w'' => e = .returned (.bool hh) ∧ Below w'.heap.size w' w'') := hhit
        have HF' := HF.out
        clear HF hhit
        cases r0
        · cases hh
          · clear HF'
            go_wp2_with fail
            refine (HH.out _ hDN).mono ?_
            rintro e WE ⟨rfl, hbE⟩
            go_wp2_with fail
            go_ret
            exact ⟨rfl, hBN.trans (hbE.mono hBN.size)⟩
          · exact absurd (HF' rfl) Bool.false_ne_true
        · clear HF'
          go_wp2_with fail
          refine (HH.out _ hDN).mono ?_
          rintro e WE ⟨rfl, hbE⟩
          cases hh
          all_goals
            go_wp2_with fail
            go_ret
            exact ⟨rfl, hBN.trans (hbE.mono hBN.size)⟩

end Go.Proofs.Qxb6614725a

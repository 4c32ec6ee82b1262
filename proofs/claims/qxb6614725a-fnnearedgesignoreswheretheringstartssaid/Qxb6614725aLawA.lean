/-
  The walk of FnNearEdgesSplitsAndMeetsEndpoints (seat b6614725a).
-/
import Derived.Test.Qxb6614725aPre
import Derived.Test.Qxb6614725aAt2
import Derived.Laws.IdiomCopy
namespace Go.Proofs.Qxb6614725a
open Go.ChangeShapes Go.WideShapes Go.ChangeAt Go.RowKit Go.Flt

attribute [local go_sem] run_store_float alloc_drewN setCell_drewN

theorem zzb7_any (va na ea : Option Addr) (n1 c1 n2 c2 n3 c3 : Nat) (p : V3) (cut : Int) (w : World) (h1 : n1 ≤ maxLen) (h2 : n2 ≤ maxLen) (h3 : n3 ≤ maxLen) :
    Calls Try.prog 21 #[.slice va n1 c1, .slice na n2 c2, p.val, .slice ea n3 c3, .int .i64 cut] w fun e w' => (∃ x, e = .returned (.bool x)) ∧ Below w.heap.size w w' := by
  unfold maxLen at h1 h2 h3
  have hB0 : Below w.heap.size w (w.alloc (.cells p.cells 31)) := (Below.refl _ _).alloc (Nat.le_refl _) _
  go_enter Try.func21, Try.ntmps21
  go_wp2
  all_goals go_ret
  all_goals exact ⟨⟨_, rfl⟩, hB0⟩

/-- The int32s of a slice that came in. -/
def Ints (w : World) (a : Option Addr) (zs : List Int) : Prop := zs = [] ∨ ∃ b off, a = some ⟨b, off, none⟩ ∧ ∀ j (h : j < zs.length), w.cell? ⟨b, off + j, none⟩ = some (.int .i32 zs[j])

theorem Ints.below {w w' : World} {a : Option Addr} {zs : List Int} (h : Ints w a zs) (hb : Below w.heap.size w w') : Ints w' a zs := by
  rcases h with h | ⟨b, off, rfl, h⟩
  · exact .inl h
  · exact .inr ⟨b, off, rfl, fun j hj => (hb.cell (World.block_lt_of_cell? _ _ (h j hj))).trans (h j hj)⟩

theorem run_make42' (n : Nat) (hn : n ≤ 65536) (w : World) : (Instr.makeSlice 42 (.int .i64 n) (.int .i64 n)).run Try.prog w = .ok (.slice (some ⟨w.heap.size, 0, none⟩) n n) (w.alloc (.cells (madeCells #[.int .i32 0] n) 21)) := by
  have := run_make42 n hn w
  rwa [Nat.mul_one] at this

theorem info21 : (Try.prog.info? 21).map (·.size) = some 1 := by kernel_rfl

/-- copy(zzc, edges), zzc just made. -/
theorem run_copy42 (ty : TypeId) (a : Addr) (zs : List Int) (cap : Nat) (w : World) (hz : Ints w (some a) zs) (hn : zs.length ≤ 65536) :
    ∃ w', (Builtin.copy_ #[42, 42] ty #[.slice (some ⟨w.heap.size, 0, none⟩) zs.length zs.length, .slice (some a) zs.length cap]).run Try.prog (w.alloc (.cells (madeCells #[.int .i32 0] zs.length) 21)) = .ok (goInt zs.length) w' ∧ Below w.heap.size w w' ∧ Ints w' (some ⟨w.heap.size, 0, none⟩) zs ∧ w.heap.size < w'.heap.size := by
  have hB0 : Below w.heap.size w (w.alloc (.cells (madeCells #[.int .i32 0] zs.length) 21)) := (Below.refl _ _).alloc (Nat.le_refl _) _
  rcases hz with rfl | ⟨b, off, ha, hz⟩
  · refine ⟨_, run_copy_none _ 42 42 ty 21 _ _ _ _ _ _ Try.underlying42 info21 (by simp), hB0, .inl rfl, by simp⟩
  · cases ha
    have ht := there_made w #[.int .i32 0] zs.length 21
    refine ⟨_, ?_, below_setCells (w := w.alloc (.cells (madeCells #[.int .i32 0] zs.length) 21)) w.heap.size (Nat.le_refl _) (zs.map (Value.int .i32)) 0 hB0, .inr ⟨w.heap.size, 0, rfl, fun j hj => ?_⟩, ?_⟩
    · have := run_copy_cells (P := Try.prog) (w.alloc (.cells (madeCells #[.int .i32 0] zs.length) 21)) 42 42 ty 21 w.heap.size 0 zs.length zs.length ⟨b, off, none⟩ zs.length cap (zs.map (Value.int .i32)) Try.underlying42 info21 (by simp) (by
        intro j v hj
        rw [List.getElem?_map] at hj
        obtain ⟨z, hz1, rfl⟩ := Option.map_eq_some_iff.1 hj
        obtain ⟨hlt, rfl⟩ := List.getElem?_eq_some_iff.1 hz1
        rw [Addr.add_mid, hB0.cell (World.block_lt_of_cell? _ _ (hz j hlt))]
        exact hz j hlt) (fun j hj => (ht j (by simpa using hj)).1) (fun j hj => (ht j (by simpa using hj)).2) (by simp [Value.oneCell'])
      simpa using this
    · have := World.rangeAt_setCells_same (w.alloc (.cells (madeCells #[.int .i32 0] zs.length) 21)) w.heap.size 0 (zs.map (Value.int .i32)) (by simpa using ht) j (.int .i32 zs[j]) (by simp [hj])
      simpa using this
    · exact Nat.lt_of_lt_of_le (by simp : w.heap.size < (w.alloc (.cells (madeCells #[.int .i32 0] zs.length) 21)).heap.size) (below_setCells (B := 0) w.heap.size (Nat.zero_le _) (zs.map (Value.int .i32)) 0 (Below.refl 0 _)).size

theorem run_slice_head (ob n c : Nat) (hc : c ≤ n) (w : World) : (Instr.sliceAt 42 (.slice (some ⟨ob, 0, none⟩) n n) none (some (.int .i64 c)) none).run Try.prog w = .ok (.slice (some ⟨ob, 0, none⟩) c n) w := by
  have h1 : (c : Int) ≤ n := by omega
  simp [go_sem]
  intro h
  omega

/-- Where edges[c:] begins. -/
def tailA (ob n c : Nat) : Option Addr := if n = c then some ⟨ob, 0, none⟩ else some ⟨ob, c, none⟩

theorem run_slice_tail (ob n c : Nat) (hc : c ≤ n) (w : World) : (Instr.sliceAt 42 (.slice (some ⟨ob, 0, none⟩) n n) (some (.int .i64 c)) none none).run Try.prog w = .ok (.slice (tailA ob n c) (n - c) (n - c)) w := by
  have h1 : (c : Int) ≤ n := by omega
  simp [go_sem]
  rw [if_pos hc]
  rfl

theorem EdgesAt.head {w : World} {ob : Nat} {es : List Nat} (h : EdgesAt w (some ⟨ob, 0, none⟩) es) (c : Nat) : EdgesAt w (some ⟨ob, 0, none⟩) (es.take c) := by
  rcases h with rfl | ⟨b, off, hb, h⟩
  · exact .inl (by simp)
  · cases hb
    exact .inr ⟨ob, 0, rfl, fun j hj => by rw [List.getElem_take]; exact h j (by simp at hj; omega)⟩

theorem EdgesAt.tail {w : World} {ob : Nat} {es : List Nat} (h : EdgesAt w (some ⟨ob, 0, none⟩) es) (c : Nat) : EdgesAt w (tailA ob es.length c) (es.drop c) := by
  unfold tailA
  by_cases hc : es.length = c
  · exact .inl (by rw [← hc]; exact List.drop_length)
  · rw [if_neg hc]
    rcases h with rfl | ⟨b, off, hb, h⟩
    · exact .inl (by simp)
    · cases hb
      refine .inr ⟨ob, c, rfl, fun j hj => ?_⟩
      simp at hj
      rw [List.getElem_drop]
      have := h (c + j) (by omega)
      simpa using this

theorem run_slice_none (w : World) : (Instr.sliceAt 42 (.slice none 0 0) none (some (.int .i64 0)) none).run Try.prog w = .ok (.slice none 0 0) w := by kernel_rfl
theorem run_slice_none' (w : World) : (Instr.sliceAt 42 (.slice none 0 0) (some (.int .i64 0)) none none).run Try.prog w = .ok (.slice none 0 0) w := by kernel_rfl

theorem znear_none (pa : Option Addr) (p : V3) (w : World) : Calls Try.prog 25 #[.pointer pa, p.val, .slice none 0 0] w fun e w' => e = .returned (.bool false) ∧ Below w.heap.size w w' :=
  ZZnear_any pa p none 0 0 w false fun w1 _ => near_empty pa p none 0 w1

theorem any_cut {α : Type} (f : α → Bool) (l : List α) (c : Nat) : l.any f = ((l.take c).any f || (l.drop c).any f) := by
  rw [← List.any_append, List.take_append_drop]

set_option maxHeartbeats 8000000 in
theorem law7 (va na ea : Option Addr) (vs ns : List V3) (vc nc : Nat) (p : V3) (zs : List Int) (ec : Nat) (cut : Int) (w : World) (hv : Came w va vs) (hs : Came w na ns) (he : Ints w ea zs)
    (h1 : vs.length ≤ maxLen) (h2 : ns.length ≤ maxLen) (h3 : zs.length ≤ maxLen) (hzb : ∀ z ∈ zs, -2147483648 ≤ z ∧ z ≤ 2147483647) (hc0 : -9223372036854775808 ≤ cut) (hc1 : cut ≤ 9223372036854775807) (hec : ea = none → ec = 0)
    (hplain : ∀ k, boxedO p.ab (ab 4607182418800017408) = true → hitK vs ns p k = true → nearK vs ns p k = true) :
    Calls Try.prog 7 #[.slice va vs.length vc, .slice na ns.length nc, p.val, .slice ea zs.length ec, .int .i64 cut] w fun e w' => e = .returned (.bool true) ∧ Below w.heap.size w w' := by
  have hB0 : Below w.heap.size w (w.alloc (.cells p.cells 31)) := (Below.refl _ _).alloc (Nat.le_refl _) _
  have hp0 : Lies (w.alloc (.cells p.cells 31)) w.heap.size p := lies_new w p 31
  have H0 : Hid (∀ k, boxedO p.ab (ab 4607182418800017408) = true → hitK vs ns p k = true → nearK vs ns p k = true) := hplain
  have HZ : Hid (∀ z ∈ zs, -2147483648 ≤ z ∧ z ≤ 2147483647) := hzb
  clear hplain hzb
  go_enter Try.func7, Try.ntmps7
  go_wp2_with fail
  refine (zzb7_any va na ea _ _ _ _ _ _ p cut _ h1 h2 h3).mono ?_
  rintro e W1 ⟨⟨x, rfl⟩, hb1⟩
  have hB1 := hB0.trans (hb1.mono hB0.size)
  have hp1 := hp0.below hb1 hp0.lt
  unfold maxLen at h1 h2 h3
  clear hb1 hp0 hB0
  cases x
  · go_wp2_with fail
    go_ret
    exact ⟨rfl, hB1⟩
  by_cases l1 : 16384 < (vs.length : Int)
  · go_wp2_with fail
    go_ret
    exact ⟨rfl, hB1⟩
  by_cases l2 : 16384 < (ns.length : Int)
  · go_wp2_with fail
    go_ret
    exact ⟨rfl, hB1⟩
  by_cases l3 : 65536 < (zs.length : Int)
  · go_wp2_with fail
    go_ret
    exact ⟨rfl, hB1⟩
  by_cases l4 : ns.length = vs.length
  rotate_left
  · have l4' : ((ns.length : Int) != (vs.length : Int)) = true := by simp; omega
    go_wp2_with fail
    go_ret
    exact ⟨rfl, hB1⟩
  have hmk := fun w => run_make42' zs.length (by omega) w
  replace hv := hv.below hB1
  replace hs := hs.below hB1
  replace he := he.below hB1
  rw [l4]
  have l5 : vs.length ≤ 16384 := by omega
  have l6 : zs.length ≤ 65536 := by omega
  clear h1 h2 h3 l1 l2 l3
  cases ea with
  | none =>
    have hz : zs = [] := by
      rcases he with he | ⟨_, _, h, _⟩
      · exact he
      · cases h
    subst hz
    rw [hec rfl]
    simp only [List.length_nil] at *
    clear hmk hec he HZ H0
    go_wp2_with fail
    go_loop [51] (fun i => i = .int .i64 0) (fun _ => 0)
    case atStart => rfl
    case round =>
    subst hrel
    by_cases hc2 : cut < 0
    · go_wp2_with fail
      go_ret
      exact ⟨rfl, hB1⟩
    by_cases hc3 : 0 < cut
    · have hd : decide (cut < 0) = false := by simpa using hc2
      go_wp2_with fail
      go_ret
      exact ⟨rfl, hB1⟩
    obtain rfl : cut = 0 := by omega
    go_wp2_with fail
    refine (vecs_came va vs vc W1 l5 hv).mono ?_
    rintro e W3 ⟨⟨x1, rfl, hr1⟩, hb3⟩
    go_wp2_with fail
    have hvn := vecs_came na ns nc W3 (by omega) (hs.below hb3)
    rw [l4] at hvn
    refine hvn.mono ?_
    clear hvn
    rintro e W4 ⟨⟨x2, rfl, hr2⟩, hb4⟩
    have hb4' := hb3.trans (hb4.mono hb3.size)
    go_wp2_with fail
    refine (newPolygon_any x1 x2 vs.length W4).mono ?_
    rintro e W5' ⟨rfl, hW5⟩
    have hb5 := (Below.refl W4.heap.size W4).alloc (Nat.le_refl _) (.cells (poly x1 x2 vs.length) 71)
    rw [← hW5] at hb5
    have hb5' := hb4'.trans (hb5.mono hb4'.size)
    clear hW5 hr1 hr2 hb3 hb4 hb4' hb5
    have hp5 := hp1.below hb5' hp1.lt
    obtain ⟨q0, q1, q2⟩ := hp5.cells
    generalize W4.heap.size = pb at *
    go_wp2_with fail
    refine (zzVec_any p W5').mono ?_
    rintro e W6 ⟨rfl, hb6⟩
    go_wp2_with fail
    have hq : Lies (W6.alloc (.cells p.cells 49)) W6.heap.size p := lies_new W6 p 49
    have hb7 : Below W1.heap.size W1 (W6.alloc (.cells p.cells 49)) := (hb5'.trans (hb6.mono hb5'.size)).alloc (Nat.le_trans hb5'.size hb6.size) _
    generalize W6.alloc (.cells p.cells 49) = W7 at *
    clear q0 q1 q2 hp5 hb5' hb6
    have hB7 : Below w.heap.size w W7 := hB1.trans (hb7.mono hB1.size)
    have hp7 := hp1.below hb7 hp1.lt
    clear hb7 hv hs hp1 hB1
    generalize W6.heap.size = qb at *
    refine (znear_none _ p W7).mono ?_
    rintro e W8 ⟨rfl, hb8⟩
    have lq : ∀ w', Below W7.heap.size W7 w' → Lies w' qb p := fun w' h => hq.below h hq.lt
    go_wp2_with fail
    refine Loose.wp_region (C := fun w' => Below W7.heap.size W7 w')
      [(· = .pointer (some ⟨pb, 0, none⟩)), (· = p.val), (· = .slice none 0 0), (· = .int .i64 0), (· = .slice none 0 0), (· = .bool false), (· = .bool false)] (by kernel_rfl) (by kernel_rfl) hb8.drew ?_
    refine Loose.wpL_cons ?_ ?_
    · exact Loose.at_move rfl _ rfl rfl
    rintro _ rfl
    simp only [Act.put, List.setIfInBounds_toArray, List.set_cons_succ, List.set_cons_zero]
    refine Loose.wpL_cons ?_ ?_
    · exact at_vec p qb rfl _ rfl rfl lq rfl
    rintro _ rfl
    simp only [Act.put, List.setIfInBounds_toArray, List.set_cons_succ, List.set_cons_zero]
    refine Loose.wpL_cons ?_ ?_
    · exact Loose.at_move rfl _ rfl rfl
    rintro _ rfl
    simp only [Act.put, List.setIfInBounds_toArray, List.set_cons_succ, List.set_cons_zero]
    refine Loose.wpL_cons ?_ ?_
    · exact Loose.at_move rfl _ rfl rfl
    rintro _ rfl
    simp only [Act.put, List.setIfInBounds_toArray, List.set_cons_succ, List.set_cons_zero]
    refine Loose.wpL_cons ?_ ?_
    · exact Loose.at_slice rfl 42 _ none (some _) none rfl (.slice none 0 0) none (some (.int .i64 0)) none rfl rfl rfl rfl _ (fun w' => run_slice_none w') rfl
    rintro _ rfl
    simp only [Act.put, List.setIfInBounds_toArray, List.set_cons_succ, List.set_cons_zero]
    refine Loose.wpL_cons ?_ ?_
    · exact Loose.at_call rfl 25 _ _ rfl _ Try.func25 (by kernel_rfl) (by kernel_rfl) #[.pointer (some ⟨pb, 0, none⟩), p.val, .slice none 0 0] rfl (fun w' hC => (znear_none _ p w').mono fun _ _ ⟨he, hb⟩ => ⟨⟨_, he, rfl⟩, hC.trans (hb.mono hC.size)⟩)
    rintro _ rfl
    simp only [Act.put, List.setIfInBounds_toArray, List.set_cons_succ, List.set_cons_zero]
    refine Loose.wpL_cons ?_ ?_
    · exact Loose.at_assign rfl _ rfl rfl
    rintro _ rfl
    simp only [Act.put, List.setIfInBounds_toArray, List.set_cons_succ, List.set_cons_zero]
    refine Loose.wpL_nil ?_
    intro W9 hb9
    go_wp2_with fail
    refine Loose.wp_region (C := fun w' => Below W7.heap.size W7 w')
      [(· = .pointer (some ⟨pb, 0, none⟩)), (· = p.val), (· = .slice none 0 0), (· = .int .i64 0), (· = .slice none 0 0), (· = .bool false), (· = .bool false)] (by kernel_rfl) (by kernel_rfl) hb9.drew ?_
    refine Loose.wpL_cons ?_ ?_
    · exact Loose.at_move rfl _ rfl rfl
    rintro _ rfl
    simp only [Act.put, List.setIfInBounds_toArray, List.set_cons_succ, List.set_cons_zero]
    refine Loose.wpL_cons ?_ ?_
    · exact at_vec p qb rfl _ rfl rfl lq rfl
    rintro _ rfl
    simp only [Act.put, List.setIfInBounds_toArray, List.set_cons_succ, List.set_cons_zero]
    refine Loose.wpL_cons ?_ ?_
    · exact Loose.at_move rfl _ rfl rfl
    rintro _ rfl
    simp only [Act.put, List.setIfInBounds_toArray, List.set_cons_succ, List.set_cons_zero]
    refine Loose.wpL_cons ?_ ?_
    · exact Loose.at_move rfl _ rfl rfl
    rintro _ rfl
    simp only [Act.put, List.setIfInBounds_toArray, List.set_cons_succ, List.set_cons_zero]
    refine Loose.wpL_cons ?_ ?_
    · exact Loose.at_slice rfl 42 _ (some _) none none rfl (.slice none 0 0) (some (.int .i64 0)) none none rfl rfl rfl rfl _ (fun w' => run_slice_none' w') rfl
    rintro _ rfl
    simp only [Act.put, List.setIfInBounds_toArray, List.set_cons_succ, List.set_cons_zero]
    refine Loose.wpL_cons ?_ ?_
    · exact Loose.at_call rfl 25 _ _ rfl _ Try.func25 (by kernel_rfl) (by kernel_rfl) #[.pointer (some ⟨pb, 0, none⟩), p.val, .slice none 0 0] rfl (fun w' hC => (znear_none _ p w').mono fun _ _ ⟨he, hb⟩ => ⟨⟨_, he, rfl⟩, hC.trans (hb.mono hC.size)⟩)
    rintro _ rfl
    simp only [Act.put, List.setIfInBounds_toArray, List.set_cons_succ, List.set_cons_zero]
    refine Loose.wpL_cons ?_ ?_
    · exact Loose.at_assign rfl _ rfl rfl
    rintro _ rfl
    simp only [Act.put, List.setIfInBounds_toArray, List.set_cons_succ, List.set_cons_zero]
    refine Loose.wpL_nil ?_
    intro W10 hb10
    clear lq
    have hp10 := hp7.below hb10 hp7.lt
    obtain ⟨q0, q1, q2⟩ := hp10.cells
    have hB10 := hB7.trans (hb10.mono hB7.size)
    go_wp2_with fail
    refine (hit_empty va na none vs.length vc vs.length nc 0 p W10).mono ?_
    rintro e W11 ⟨rfl, hb11⟩
    have hB11 := hB10.trans (hb11.mono hB10.size)
    go_wp2_with fail
    go_ret
    exact ⟨rfl, hB11⟩
  | some a =>
    obtain ⟨W2, hcp, hcB, hcI, hcz⟩ := run_copy42 3 a zs ec W1 he l6
    go_wp2_with (refine Lib.wpList_copy_run _ rfl _ _ 42 42 rfl _ _ rfl rfl hcp ?_)
    replace hp1 := hp1.below hcB hp1.lt
    replace hv := hv.below hcB
    replace hs := hs.below hcB
    replace hB1 := hB1.trans (hcB.mono hB1.size)
    have hci : ∀ j (h : j < zs.length), W2.cell? ⟨W1.heap.size, j, none⟩ = some (.int .i32 zs[j]) := by
      intro j h
      rcases hcI with rfl | ⟨b, off, hb, hcI⟩
      · cases h
      · cases hb
        have := hcI j h
        simpa using this
    clear hcp hcB hmk he hcI hcz
    generalize W1.heap.size = ob at *
    go_loop [51] (fun i => ∃ j : Nat, j ≤ zs.length ∧ i = .int .i64 j ∧ ∀ t (h : t < zs.length), t < j → 0 ≤ zs[t] ∧ zs[t] < vs.length) (fun i => zs.length - (intOf i).toNat)
    case atStart => exact ⟨0, Nat.zero_le _, rfl, fun t h ht => by omega⟩
    case round =>
      obtain ⟨j, hj, rfl, hin⟩ := hrel
      have HI : Hid (∀ t (h : t < zs.length), t < j → 0 ≤ zs[t] ∧ zs[t] < vs.length) := hin
      clear hin
      by_cases hlt : j < zs.length
      · have c1 := hci j hlt
        obtain ⟨hz0, hz1⟩ := HZ.out zs[j] (List.getElem_mem hlt)
        have HE : Hid (∀ z, z = zs[j] → 0 ≤ z → z < vs.length → ∀ t (h : t < zs.length), t < j + 1 → 0 ≤ zs[t] ∧ zs[t] < vs.length) := by
          intro z ez h0 h1 t h ht
          by_cases e : t = j
          · subst e; rw [← ez]; exact ⟨h0, h1⟩
          · exact HI.out t h (by omega)
        have HC : Hid (∀ j (h : j < zs.length), W2.cell? ⟨ob, j, none⟩ = some (.int .i32 zs[j])) := hci
        clear hci
        replace HE := HE.out _ rfl
        generalize zs[j] = z at *
        have HE' : Hid (0 ≤ z → z < vs.length → ∀ t (h : t < zs.length), t < j + 1 → 0 ≤ zs[t] ∧ zs[t] < vs.length) := HE
        clear HE
        have hj1 : (j : Int) < zs.length := by omega
        by_cases hneg : z < 0
        · go_wp2_with fail
          go_ret
          exact ⟨rfl, hB1⟩
        · by_cases hbig : (vs.length : Int) ≤ z
          · have hd : decide (z < 0) = false := by simpa using hneg
            go_wp2_with fail
            go_ret
            exact ⟨rfl, hB1⟩
          · have hd : decide (z < 0) = false := by simpa using hneg
            go_wp2_with fail
            go_round
            case rel => exact ⟨j + 1, by omega, by go_num, HE'.out (by omega) (by omega)⟩
            case measure => simp [intOf]; omega
      · have hge : (zs.length : Int) ≤ j := by omega
        have hel : (zs.map Int.toNat).length = zs.length := by simp
        have hE : EdgesAt W2 (some ⟨ob, 0, none⟩) (zs.map Int.toNat) := by
          refine .inr ⟨ob, 0, rfl, fun t ht => ?_⟩
          have ht' : t < zs.length := by simpa using ht
          have := HI.out t ht' (by omega)
          rw [Nat.zero_add, hci t ht', List.getElem_map, Int.toNat_of_nonneg this.1]
        have hEk : ∀ k ∈ zs.map Int.toNat, k < vs.length := by
          intro k hk
          obtain ⟨z, hz, rfl⟩ := List.mem_map.1 hk
          obtain ⟨t, ht, rfl⟩ := List.getElem_of_mem hz
          have := HI.out t ht (by omega)
          omega
        clear hci HI HZ
        generalize zs.map Int.toNat = es at *
        by_cases hc2 : cut < 0
        · go_wp2_with fail
          go_ret
          exact ⟨rfl, hB1⟩
        by_cases hc3 : (zs.length : Int) < cut
        · have hd : decide (cut < 0) = false := by simpa using hc2
          go_wp2_with fail
          go_ret
          exact ⟨rfl, hB1⟩
        have hd : decide (cut < 0) = false := by simpa using hc2
        obtain ⟨c, rfl⟩ : ∃ c : Nat, cut = c := ⟨cut.toNat, by omega⟩
        go_wp2_with fail
        refine (vecs_came va vs vc W2 l5 hv).mono ?_
        rintro e W3 ⟨⟨x1, rfl, hr1⟩, hb3⟩
        go_wp2_with fail
        have hvn := vecs_came na ns nc W3 (by omega) (hs.below hb3)
        rw [l4] at hvn
        refine hvn.mono ?_
        clear hvn
        rintro e W4 ⟨⟨x2, rfl, hr2⟩, hb4⟩
        have hb4' := hb3.trans (hb4.mono hb3.size)
        go_wp2_with fail
        refine (newPolygon_any x1 x2 vs.length W4).mono ?_
        rintro e W5' ⟨rfl, hW5⟩
        have hPoly := poly_new W4 x1 x2 vs ns l4 (hr1.below hb4) hr2
        have hb5 := (Below.refl W4.heap.size W4).alloc (Nat.le_refl _) (.cells (poly x1 x2 vs.length) 71)
        rw [← hW5] at hPoly hb5
        have hb5' := hb4'.trans (hb5.mono hb4'.size)
        clear hW5 hr1 hr2 hb3 hb4 hb4' hb5
        have hp5 := hp1.below hb5' hp1.lt
        obtain ⟨q0, q1, q2⟩ := hp5.cells
        generalize W4.heap.size = pb at *
        go_wp2_with fail
        refine (zzVec_any p W5').mono ?_
        rintro e W6 ⟨rfl, hb6⟩
        go_wp2_with fail
        have hq : Lies (W6.alloc (.cells p.cells 49)) W6.heap.size p := lies_new W6 p 49
        have hb7 : Below W2.heap.size W2 (W6.alloc (.cells p.cells 49)) := (hb5'.trans (hb6.mono hb5'.size)).alloc (Nat.le_trans hb5'.size hb6.size) _
        have hPoly7 : PolyAt (W6.alloc (.cells p.cells 49)) pb vs ns := (hPoly.below l4 hb6).below l4 ((Below.refl W6.heap.size W6).alloc (Nat.le_refl _) _)
        generalize W6.alloc (.cells p.cells 49) = W7 at *
        clear q0 q1 q2 hp5 hPoly hb5' hb6
        have hE7 := hE.below hb7
        have hB7 : Below w.heap.size w W7 := hB1.trans (hb7.mono hB1.size)
        have hv7 := hv.below hb7
        have hs7 := hs.below hb7
        have hp7 := hp1.below hb7 hp1.lt
        clear hE hb7 hv hs hp1 hB1
        generalize W6.heap.size = qb at *
        have hna := znear_any pb vs ns p (some ⟨ob, 0, none⟩) es es.length W7 l4 l5 (by omega) hEk hPoly7 hE7
        rw [hel] at hna
        refine hna.mono ?_
        clear hna
        rintro e W8 ⟨rfl, hb8⟩
        have hEkh : ∀ k ∈ es.take c, k < vs.length := fun k hk => hEk k (List.mem_of_mem_take hk)
        have hEkt : ∀ k ∈ es.drop c, k < vs.length := fun k hk => hEk k (List.mem_of_mem_drop hk)
        have hlt1 : (es.take c).length = c := by rw [List.length_take]; omega
        have hlt2 : (es.drop c).length = es.length - c := List.length_drop
        have lq : ∀ w', Below W7.heap.size W7 w' → Lies w' qb p := fun w' h => hq.below h hq.lt
        have nh : ∀ w', Below W7.heap.size W7 w' → Calls Try.prog 25 #[.pointer (some ⟨pb, 0, none⟩), p.val, .slice (some ⟨ob, 0, none⟩) c zs.length] w' fun e w'' => e = .returned (.bool ((es.take c).any (nearK vs ns p))) ∧ Below w'.heap.size w' w'' := by
          intro w' h
          have := znear_any pb vs ns p (some ⟨ob, 0, none⟩) (es.take c) es.length w' l4 l5 (by omega) hEkh (hPoly7.below l4 h) ((hE7.head c).below h)
          rw [hlt1, hel] at this
          exact this
        have nt : ∀ w', Below W7.heap.size W7 w' → Calls Try.prog 25 #[.pointer (some ⟨pb, 0, none⟩), p.val, .slice (tailA ob zs.length c) (zs.length - c) (zs.length - c)] w' fun e w'' => e = .returned (.bool ((es.drop c).any (nearK vs ns p))) ∧ Below w'.heap.size w' w'' := by
          intro w' h
          have := znear_any pb vs ns p (tailA ob es.length c) (es.drop c) (es.length - c) w' l4 l5 (by omega) hEkt (hPoly7.below l4 h) ((hE7.tail c).below h)
          rw [hlt2, hel] at this
          exact this
        have HA : Hid (es.any (nearK vs ns p) = ((es.take c).any (nearK vs ns p) || (es.drop c).any (nearK vs ns p))) := any_cut _ _ _
        have HF : Hid ((boxedO p.ab (ab 4607182418800017408) && es.any (hitK vs ns p)) = true → es.any (nearK vs ns p) = true) := by
          intro h
          rw [Bool.and_eq_true, List.any_eq_true] at h
          obtain ⟨h1, k, hk, h2⟩ := h
          exact List.any_eq_true.2 ⟨k, hk, H0.out k h1 h2⟩
        have hc4 : c ≤ zs.length := by omega
        clear hEkh hEkt hlt1 hlt2
        generalize (es.take c).any (nearK vs ns p) = r1 at *
        generalize (es.drop c).any (nearK vs ns p) = r2 at *
        generalize es.any (nearK vs ns p) = r0 at *
        go_wp2_with fail
        refine Loose.wp_region (C := fun w' => Below W7.heap.size W7 w')
          [(· = .pointer (some ⟨pb, 0, none⟩)), (· = p.val), (· = .slice (some ⟨ob, 0, none⟩) zs.length zs.length), (· = .int .i64 c), (· = .slice (some ⟨ob, 0, none⟩) c zs.length), (· = .bool r1), (· = .bool r1)] (by kernel_rfl) (by kernel_rfl) hb8.drew ?_
        refine Loose.wpL_cons ?_ ?_
        · exact Loose.at_move rfl _ rfl rfl
        rintro _ rfl
        simp only [Act.put, List.setIfInBounds_toArray, List.set_cons_succ, List.set_cons_zero]
        refine Loose.wpL_cons ?_ ?_
        · exact at_vec p qb rfl _ rfl rfl lq rfl
        rintro _ rfl
        simp only [Act.put, List.setIfInBounds_toArray, List.set_cons_succ, List.set_cons_zero]
        refine Loose.wpL_cons ?_ ?_
        · exact Loose.at_move rfl _ rfl rfl
        rintro _ rfl
        simp only [Act.put, List.setIfInBounds_toArray, List.set_cons_succ, List.set_cons_zero]
        refine Loose.wpL_cons ?_ ?_
        · exact Loose.at_move rfl _ rfl rfl
        rintro _ rfl
        simp only [Act.put, List.setIfInBounds_toArray, List.set_cons_succ, List.set_cons_zero]
        refine Loose.wpL_cons ?_ ?_
        · exact Loose.at_slice rfl 42 _ none (some _) none rfl (.slice (some ⟨ob, 0, none⟩) zs.length zs.length) none (some (.int .i64 c)) none rfl rfl rfl rfl _ (fun w' => run_slice_head ob zs.length c hc4 w') rfl
        rintro _ rfl
        simp only [Act.put, List.setIfInBounds_toArray, List.set_cons_succ, List.set_cons_zero]
        refine Loose.wpL_cons ?_ ?_
        · exact Loose.at_call rfl 25 _ _ rfl _ Try.func25 (by kernel_rfl) (by kernel_rfl) #[.pointer (some ⟨pb, 0, none⟩), p.val, .slice (some ⟨ob, 0, none⟩) c zs.length] rfl (fun w' hC => (nh w' hC).mono fun _ _ ⟨he, hb⟩ => ⟨⟨_, he, rfl⟩, hC.trans (hb.mono hC.size)⟩)
        rintro _ rfl
        simp only [Act.put, List.setIfInBounds_toArray, List.set_cons_succ, List.set_cons_zero]
        refine Loose.wpL_cons ?_ ?_
        · exact Loose.at_assign rfl _ rfl rfl
        rintro _ rfl
        simp only [Act.put, List.setIfInBounds_toArray, List.set_cons_succ, List.set_cons_zero]
        refine Loose.wpL_nil ?_
        intro W9 hb9
        go_wp2_with fail
        refine Loose.wp_region (C := fun w' => Below W7.heap.size W7 w')
          [(· = .pointer (some ⟨pb, 0, none⟩)), (· = p.val), (· = .slice (some ⟨ob, 0, none⟩) zs.length zs.length), (· = .int .i64 c), (· = .slice (tailA ob zs.length c) (zs.length - c) (zs.length - c)), (· = .bool r2), (· = .bool r2)] (by kernel_rfl) (by kernel_rfl) hb9.drew ?_
        refine Loose.wpL_cons ?_ ?_
        · exact Loose.at_move rfl _ rfl rfl
        rintro _ rfl
        simp only [Act.put, List.setIfInBounds_toArray, List.set_cons_succ, List.set_cons_zero]
        refine Loose.wpL_cons ?_ ?_
        · exact at_vec p qb rfl _ rfl rfl lq rfl
        rintro _ rfl
        simp only [Act.put, List.setIfInBounds_toArray, List.set_cons_succ, List.set_cons_zero]
        refine Loose.wpL_cons ?_ ?_
        · exact Loose.at_move rfl _ rfl rfl
        rintro _ rfl
        simp only [Act.put, List.setIfInBounds_toArray, List.set_cons_succ, List.set_cons_zero]
        refine Loose.wpL_cons ?_ ?_
        · exact Loose.at_move rfl _ rfl rfl
        rintro _ rfl
        simp only [Act.put, List.setIfInBounds_toArray, List.set_cons_succ, List.set_cons_zero]
        refine Loose.wpL_cons ?_ ?_
        · exact Loose.at_slice rfl 42 _ (some _) none none rfl (.slice (some ⟨ob, 0, none⟩) zs.length zs.length) (some (.int .i64 c)) none none rfl rfl rfl rfl _ (fun w' => run_slice_tail ob zs.length c hc4 w') rfl
        rintro _ rfl
        simp only [Act.put, List.setIfInBounds_toArray, List.set_cons_succ, List.set_cons_zero]
        refine Loose.wpL_cons ?_ ?_
        · exact Loose.at_call rfl 25 _ _ rfl _ Try.func25 (by kernel_rfl) (by kernel_rfl) #[.pointer (some ⟨pb, 0, none⟩), p.val, .slice (tailA ob zs.length c) (zs.length - c) (zs.length - c)] rfl (fun w' hC => (nt w' hC).mono fun _ _ ⟨he, hb⟩ => ⟨⟨_, he, rfl⟩, hC.trans (hb.mono hC.size)⟩)
        rintro _ rfl
        simp only [Act.put, List.setIfInBounds_toArray, List.set_cons_succ, List.set_cons_zero]
        refine Loose.wpL_cons ?_ ?_
        · exact Loose.at_assign rfl _ rfl rfl
        rintro _ rfl
        simp only [Act.put, List.setIfInBounds_toArray, List.set_cons_succ, List.set_cons_zero]
        refine Loose.wpL_nil ?_
        intro W10 hb10
        clear nh nt lq
        have hp10 := hp7.below hb10 hp7.lt
        obtain ⟨q0, q1, q2⟩ := hp10.cells
        have hh := hit_any va na vs ns vc nc p (some ⟨ob, 0, none⟩) es zs.length W10 l4 l5 (by omega) hEk (hv7.below hb10) (hs7.below hb10) (hE7.below hb10)
        rw [hel] at hh
        have hB10 := hB7.trans (hb10.mono hB7.size)
        have HA' := HA.out
        clear HA
        cases r1 <;> cases r2 <;> simp only [Bool.or_true, Bool.or_false] at HA' <;> subst HA'
        · go_wp2_with fail
          refine hh.mono ?_
          rintro e W11 ⟨rfl, hb11⟩
          have hB11 := hB10.trans (hb11.mono hB10.size)
          have HF' := HF.out
          clear HF
          generalize (boxedO p.ab (ab 4607182418800017408) && es.any (hitK vs ns p)) = hv at *
          cases hv
          · go_wp2_with fail
            go_ret
            exact ⟨rfl, hB11⟩
          · exact absurd (HF' rfl) Bool.false_ne_true
        all_goals
          clear HF
          go_wp2_with fail
          refine hh.mono ?_
          rintro e W11 ⟨rfl, hb11⟩
          have hB11 := hB10.trans (hb11.mono hB10.size)
          generalize (boxedO p.ab (ab 4607182418800017408) && es.any (hitK vs ns p)) = hv at *
          cases hv
          all_goals
            go_wp2_with fail
            go_ret
            exact ⟨rfl, hB11⟩

end Go.Proofs.Qxb6614725a

/-
  zzVec, zzVecs, ZZnewPolygon (seat b6614725a).
-/
import Derived.Test.Qxb6614725aNear
import Derived.Laws.MakeOwn
import Derived.Laws.Cover3
namespace Go.Proofs.Qxb6614725a
open Go.ChangeShapes Go.WideShapes Go.ChangeAt Go.RowKit Go.Flt
attribute [local go_sem] run_store_float alloc_drewN setCell_drewN

theorem ZZvec_any (p : V3) (w : World) : Calls Try.prog 36 #[.float .f64 p.x, .float .f64 p.y, .float .f64 p.z] w fun e w' => e = .returned p.val ∧ Below w.heap.size w w' := by
  go_enter Try.func36, Try.ntmps36
  go_wp2
  exact bodyPost_ret (v := p.val) (by simp [results, Try.results36, go_sem]) rfl ⟨rfl, (Below.refl _ _).alloc (Nat.le_refl _) _⟩

theorem bcells {W w1 : World} (hb : Below W.heap.size W w1) : (∀ b o, b < W.heap.size → w1.cell? ⟨b, o, none⟩ = W.cell? ⟨b, o, none⟩) ∧ (∀ b o, b < W.heap.size → w1.frozen? ⟨b, o, none⟩ = W.frozen? ⟨b, o, none⟩) := bcell hb

theorem zzVec_any (p : V3) (w : World) : Calls Try.prog 24 #[p.val] w fun e w' => e = .returned p.val ∧ Below w.heap.size w w' := by
  go_enter Try.func24, Try.ntmps24
  go_wp2_with fail
  refine (ZZvec_any p _).mono ?_
  rintro e w1 ⟨rfl, hb⟩
  obtain ⟨hc, hf⟩ := bcells hb
  have hz : w.heap.size + 1 < w1.heap.size := by have := hb.size; simp at this; omega
  go_wp2_with fail
  refine bodyPost_ret (v := p.val) (by simp [results, Try.results24, go_sem, hc]) rfl ⟨rfl, ?_⟩
  have hB := (((Below.refl w.heap.size w).alloc (Nat.le_refl _) (.cells p.cells 31)).alloc (by simp) (.cells #[.float .f64 0, .float .f64 0, .float .f64 0] 49)).trans (hb.mono (by simp; omega))
  exact ((hB.setCell (p := ⟨w.heap.size + 1, 0, none⟩) (by simp) _).setCell (p := ⟨w.heap.size + 1, 1, none⟩) (by simp) _).setCell (p := ⟨w.heap.size + 1, 2, none⟩) (by simp) _

def z3 : Array Value := #[.float .f64 0, .float .f64 0, .float .f64 0]
theorem facts49 : (Try.prog.info? 49).map (fun i => (i.zero, i.size, i.bytes)) = some (some (.agg z3), 3, 24) := by kernel_rfl
theorem facts31 : (Try.prog.info? 31).map (fun i => (i.zero, i.size, i.bytes)) = some (some (.agg z3), 3, 24) := by kernel_rfl
theorem facts21 : (Try.prog.info? 21).map (fun i => (i.zero, i.size, i.bytes)) = some (some (.int .i32 0), 1, 4) := by kernel_rfl

theorem run_make_at (t e : TypeId) (z : Value) (size bytes : Nat) (ht : Try.prog.underlying t = some (.slice e)) (hf : (Try.prog.info? e).map (fun i => (i.zero, i.size, i.bytes)) = some (some z, size, bytes)) (n : Nat) (hn : n ≤ 65536) (hb : bytes ≤ 24) (w : World) :
    (Instr.makeSlice t (.int .i64 n) (.int .i64 n)).run Try.prog w = .ok (.slice (some ⟨w.heap.size, 0, none⟩) n n) (w.alloc (.cells (madeCells z.cells (n * size)) e)) := by
  obtain ⟨i, hi, h⟩ := Option.map_eq_some_iff.1 hf
  simp only [Prod.mk.injEq] at h
  obtain ⟨h1, rfl, rfl⟩ := h
  have := run_make (P := Try.prog) w t e i z ht hi h1 .i64 .i64 n n (by omega) (by omega) (by
    have h3 : (i.bytes : Int) * (n : Int) ≤ 24 * 65536 := Int.mul_le_mul (by omega) (by omega) (by omega) (by omega)
    omega) (by omega)
  simpa using this

theorem run_make46 (n : Nat) (hn : n ≤ 65536) (w : World) : (Instr.makeSlice 46 (.int .i64 n) (.int .i64 n)).run Try.prog w = .ok (.slice (some ⟨w.heap.size, 0, none⟩) n n) (w.alloc (.cells (madeCells z3 (n * 3)) 49)) :=
  run_make_at 46 49 (.agg z3) 3 24 Try.underlying46 facts49 n hn (by omega) w
theorem run_make41 (n : Nat) (hn : n ≤ 65536) (w : World) : (Instr.makeSlice 41 (.int .i64 n) (.int .i64 n)).run Try.prog w = .ok (.slice (some ⟨w.heap.size, 0, none⟩) n n) (w.alloc (.cells (madeCells z3 (n * 3)) 31)) :=
  run_make_at 41 31 (.agg z3) 3 24 Try.underlying41 facts31 n hn (by omega) w
theorem run_make42 (n : Nat) (hn : n ≤ 65536) (w : World) : (Instr.makeSlice 42 (.int .i64 n) (.int .i64 n)).run Try.prog w = .ok (.slice (some ⟨w.heap.size, 0, none⟩) n n) (w.alloc (.cells (madeCells #[.int .i32 0] (n * 1)) 21)) :=
  run_make_at 42 21 (.int .i32 0) 1 4 Try.underlying42 facts21 n hn (by omega) w

theorem there_made (w : World) (z : Array Value) (n : Nat) (t : TypeId) : (w.alloc (.cells (madeCells z n) t)).there w.heap.size 0 n := by
  intro j hj
  rw [Nat.zero_add, World.cell?_alloc_new, World.frozen?_alloc_new]
  simp [size_madeCells, hj]

theorem there_part {w : World} {b n : Nat} (h : w.there b 0 n) (o m : Nat) (ho : o + m ≤ n) : w.there b o m := by
  intro j hj
  have := h (o + j) (by omega)
  simpa using this

theorem there_below {w w' : World} {b n B o : Nat} (h : w.there b o n) (hb : Below B w w') (hB : b < B) : w'.there b o n := by
  intro j hj
  rw [hb.cell hB, hb.frozen hB]
  exact h j hj

/-- The V structs of a slice that came in. -/
def VsAt (w : World) (a : Option Addr) (vs : List V3) : Prop := (a = none ∧ vs = []) ∨ ∃ b off, a = some ⟨b, off, none⟩ ∧ ∀ j (h : j < vs.length), w.cell? ⟨b, off + j * 3, none⟩ = some (.float .f64 vs[j].x) ∧ w.cell? ⟨b, off + j * 3 + 1, none⟩ = some (.float .f64 vs[j].y) ∧ w.cell? ⟨b, off + j * 3 + 2, none⟩ = some (.float .f64 vs[j].z)

theorem below_setCells {B : Nat} {a w : World} (b : Nat) (hB : B ≤ b) : ∀ (vs : List Value) (o : Nat), Below B a w → Below B a (w.setCells b o vs)
  | [], _, h => h
  | v :: vs, o, h => by
    show Below B a (World.setCells (w.setCell ⟨b, o, none⟩ v) b (o + 1) vs)
    exact below_setCells b hB vs (o + 1) (h.setCell hB v)

theorem one3 (p : V3) : (p.cells).all (·.oneCell') = true := by simp [V3.cells, Value.oneCell']

theorem run_eql41 (w : World) (a : Option Addr) (l c : Nat) : (binOp .eql 41 (.slice a l c) (.slice none 0 0)).run Try.prog w = .ok (.bool a.isNone) w := by
  simp only [binOp]
  simp [run_equal_slice_nil w 41 31 a l c Try.underlying41]
attribute [local go_sem] run_eql41

set_option maxHeartbeats 2000000 in
theorem zzVecs_some (b off : Nat) (vs : List V3) (cap : Nat) (w : World) (hn : vs.length ≤ 16384)
    (hv : ∀ j (h : j < vs.length), w.cell? ⟨b, off + j * 3, none⟩ = some (.float .f64 vs[j].x) ∧ w.cell? ⟨b, off + j * 3 + 1, none⟩ = some (.float .f64 vs[j].y) ∧ w.cell? ⟨b, off + j * 3 + 2, none⟩ = some (.float .f64 vs[j].z)) :
    Calls Try.prog 23 #[.slice (some ⟨b, off, none⟩) vs.length cap] w fun e w' => (∃ ob, e = .returned (.slice (some ⟨ob, 0, none⟩) vs.length vs.length) ∧ VecsAt w' ob vs ∧ w.heap.size ≤ ob ∧ ob < w'.heap.size) ∧ Below w.heap.size w w' := by
  have hn1 : (vs.length : Int) ≤ 16384 := by omega
  have hmk := fun w => run_make46 vs.length (by omega) w
  go_enter Try.func23, Try.ntmps23
  go_wp2_with fail
  have ht0 : (w.alloc (.cells (madeCells z3 (vs.length * 3)) 49)).there w.heap.size 0 (vs.length * 3) := there_made w z3 (vs.length * 3) 49
  have hB0 : Below w.heap.size w (w.alloc (.cells (madeCells z3 (vs.length * 3)) 49)) := (Below.refl _ _).alloc (Nat.le_refl _) _
  have hz0 : w.heap.size < (w.alloc (.cells (madeCells z3 (vs.length * 3)) 49)).heap.size := by simp
  generalize w.alloc (.cells (madeCells z3 (vs.length * 3)) 49) = W0 at *
  clear hmk
  go_loopw [12] (fun i wr => ∃ j : Nat, j ≤ vs.length ∧ i = .int .i64 j ∧ Below w.heap.size w wr ∧ w.heap.size < wr.heap.size ∧ wr.there w.heap.size 0 (vs.length * 3) ∧ ∀ k (h : k < vs.length), k < j → wr.rangeAt w.heap.size (k * 3) (vs[k]).cells.toList) (fun i _ => vs.length - (intOf i).toNat)
  case atStart => exact ⟨0, Nat.zero_le _, rfl, hB0, hz0, ht0, fun k h hk => by omega⟩
  case round =>
    obtain ⟨j, hj, rfl, hbl, hz, ht, hr⟩ := hrel
    by_cases hlt : j < vs.length
    · obtain ⟨c0, c1, c2⟩ := hv j hlt
      have hbb := World.block_lt_of_cell? _ _ c0
      simp only at hbb
      have d0 : wr.cell? ⟨b, off + j * 3, none⟩ = some (.float .f64 vs[j].x) := by rw [hbl.cell hbb]; exact c0
      have d1 : wr.cell? ⟨b, off + j * 3 + 1, none⟩ = some (.float .f64 vs[j].y) := by rw [hbl.cell hbb]; exact c1
      have d2 : wr.cell? ⟨b, off + j * 3 + 2, none⟩ = some (.float .f64 vs[j].z) := by rw [hbl.cell hbb]; exact c2
      have hj1 : (j : Int) < vs.length := by omega
      clear c0 c1 c2 hB0 hz0 ht0
      have HR : Hid (∀ k (h : k < vs.length), k < j → wr.rangeAt w.heap.size (k * 3) (vs[k]).cells.toList) := hr
      have HV : Hid (∀ j (h : j < vs.length), w.cell? ⟨b, off + j * 3, none⟩ = some (.float .f64 vs[j].x) ∧ w.cell? ⟨b, off + j * 3 + 1, none⟩ = some (.float .f64 vs[j].y) ∧ w.cell? ⟨b, off + j * 3 + 2, none⟩ = some (.float .f64 vs[j].z)) := hv
      clear hr hv
      generalize hp : vs[j] = p at *
      have HP : Hid (vs[j] = p) := hp
      clear hp
      go_wp2_with fail
      refine (zzVec_any p _).mono ?_
      rintro e w1 ⟨rfl, hb1⟩
      have ht1 := there_below ht hb1 hz
      have ht2 := there_part ht1 (j * 3) 3 (by omega)
      go_wp2_with (refine wpList_store_mid rfl 49 _ _ rfl w.heap.size (j * 3) p.cells (by rfl) (by rfl) ht2 info49 (one3 p) ?_)
      go_roundw
      case rel =>
        refine ⟨j + 1, by omega, by go_num, ?_, ?_, World.there_setCells ht1 _ _ _, ?_⟩
        · exact below_setCells _ (Nat.le_refl _) _ _ (hbl.trans (hb1.mono hbl.size))
        · exact Nat.lt_of_lt_of_le hz (Nat.le_trans hb1.size (below_setCells (B := 0) w.heap.size (Nat.zero_le _) p.cells.toList (j * 3) (Below.refl 0 w1)).size)
        · intro k h hk
          by_cases e : k = j
          · subst e
            rw [HP.out]
            exact World.rangeAt_setCells_same w1 w.heap.size (k * 3) p.cells.toList ht2
          · refine World.rangeAt_setCells_apart ?_ _ _ _ (.inr (.inl (by simp; omega)))
            intro i v hi
            rw [hb1.cell hz]
            exact HR.out k h (by omega) i v hi
      case measure => simp [intOf]; omega
    · have hge : (vs.length : Int) ≤ j := by omega
      clear hB0 hz0 ht0
      have HR : Hid (∀ k (h : k < vs.length), k < j → wr.rangeAt w.heap.size (k * 3) (vs[k]).cells.toList) := hr
      clear hr
      go_wp2_with fail
      go_ret
      refine ⟨⟨w.heap.size, rfl, ?_, Nat.le_refl _, hz⟩, hbl⟩
      intro k h
      have := HR.out k h (by omega)
      exact ⟨this 0 _ rfl, this 1 _ rfl, this 2 _ rfl⟩

theorem zzVecs_none (w : World) : Calls Try.prog 23 #[.slice none 0 0] w fun e w' => e = .returned (.slice none 0 0) ∧ w' = w := by
  go_enter Try.func23, Try.ntmps23
  go_wp2_with fail
  go_ret
  exact ⟨rfl, rfl⟩

/-- What zzVecs hands back: nil, or a row of vectors of its own. -/
def RowOf (w : World) (a : Option Addr) (vs : List V3) : Prop := (a = none ∧ vs = []) ∨ ∃ b, a = some ⟨b, 0, none⟩ ∧ VecsAt w b vs ∧ b < w.heap.size

theorem RowOf.below {w w' : World} {a : Option Addr} {vs : List V3} (h : RowOf w a vs) (hb : Below w.heap.size w w') : RowOf w' a vs := by
  rcases h with h | ⟨b, rfl, h1, h2⟩
  · exact .inl h
  · exact .inr ⟨b, rfl, h1.below hb h2, Nat.lt_of_lt_of_le h2 hb.size⟩

theorem zzVecs_any (a : Option Addr) (vs : List V3) (cap : Nat) (w : World) (hn : vs.length ≤ 16384) (hv : VsAt w a vs) (hc : a = none → cap = 0) :
    Calls Try.prog 23 #[.slice a vs.length cap] w fun e w' => (∃ a', e = .returned (.slice a' vs.length vs.length) ∧ RowOf w' a' vs) ∧ Below w.heap.size w w' := by
  rcases hv with ⟨rfl, rfl⟩ | ⟨b, off, rfl, hv⟩
  · rw [hc rfl]
    refine (zzVecs_none w).mono ?_
    rintro e w' ⟨rfl, rfl⟩
    exact ⟨⟨none, rfl, .inl ⟨rfl, rfl⟩⟩, Below.refl _ _⟩
  · refine (zzVecs_some b off vs cap w hn hv).mono ?_
    rintro e w' ⟨⟨ob, rfl, h1, _, h3⟩, hb⟩
    exact ⟨⟨_, rfl, .inr ⟨ob, rfl, h1, h3⟩⟩, hb⟩

theorem run_build71 (va vb : Option Addr) (n : Nat) (w : World) : (Instr.build 71 #[(0, .slice va n n), (1, .slice vb n n)]).run Try.prog w = .ok (.agg (poly va vb n)) w := by
  kernel_rfl

theorem newPolygon_any (va vb : Option Addr) (n : Nat) (w : World) : Calls Try.prog 22 #[.slice va n n, .slice vb n n] w fun e w' => e = .returned (.pointer (some ⟨w.heap.size, 0, none⟩)) ∧ w' = w.alloc (.cells (poly va vb n) 71) := by
  have hb := fun w => run_build71 va vb n w
  go_enter Try.func22, Try.ntmps22
  go_wp2_with fail
  go_ret
  exact ⟨rfl, rfl⟩

/-- No edge is listed. -/
theorem near_empty (pa : Option Addr) (p : V3) (ea : Option Addr) (cap : Nat) (w : World) : Calls Try.prog 37 #[.pointer pa, p.val, .slice ea 0 cap] w fun e w' => e = .returned (.bool false) ∧ Below w.heap.size w w' := by
  go_enter Try.func37, Try.ntmps37
  go_wp2_with fail
  go_loopw [13] (fun i wr => i = .int .i64 0 ∧ wr = w.alloc (.cells p.cells 49)) (fun _ _ => 0)
  case atStart => exact ⟨rfl, rfl⟩
  case round =>
    obtain ⟨rfl, rfl⟩ := hrel
    go_wp2_with fail
    go_ret
    exact ⟨rfl, (Below.refl _ _).alloc (Nat.le_refl _) _⟩

theorem ZZnear_any (pa : Option Addr) (p : V3) (ea : Option Addr) (n cap : Nat) (w : World) (r : Bool) (h : ∀ w1, Below w.heap.size w w1 → Calls Try.prog 37 #[.pointer pa, p.val, .slice ea n cap] w1 fun e w' => e = .returned (.bool r) ∧ Below w1.heap.size w1 w') :
    Calls Try.prog 25 #[.pointer pa, p.val, .slice ea n cap] w fun e w' => e = .returned (.bool r) ∧ Below w.heap.size w w' := by
  have hB := (Below.refl w.heap.size w).alloc (Nat.le_refl _) (.cells p.cells 49)
  have h1 := h _ hB
  have H : Hid (∀ w1, Below w.heap.size w w1 → Calls Try.prog 37 #[.pointer pa, p.val, .slice ea n cap] w1 fun e w' => e = .returned (.bool r) ∧ Below w1.heap.size w1 w') := h
  clear h
  go_enter Try.func25, Try.ntmps25
  go_wp2_with fail
  refine h1.mono ?_
  rintro e w2 ⟨rfl, hb2⟩
  go_wp2_with fail
  go_ret
  exact ⟨rfl, hB.trans (hb2.mono hB.size)⟩

end Go.Proofs.Qxb6614725a

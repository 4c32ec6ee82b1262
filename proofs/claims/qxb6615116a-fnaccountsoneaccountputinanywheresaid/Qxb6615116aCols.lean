/-
  zzBigs, zzBigCols (seat b6615116a).
-/
import Derived.Test.Qxb6615116aBig
import Derived.Laws.MakeOwn
import Derived.Laws.IdiomCopy
import Derived.Deep.RegionWith
namespace Go.Proofs.Qxb6615116a
open Go.RowKit

def zBig : Array Value := #[.bool false, .slice none 0 0]
theorem facts50 : (Try.prog.info? 50).map (fun i => (i.zero, i.size, i.bytes)) = some (some (.agg zBig), 2, 32) := by kernel_rfl
theorem facts41 : (Try.prog.info? 41).map (fun i => (i.zero, i.size, i.bytes)) = some (some (.slice none 0 0), 1, 24) := by kernel_rfl
theorem facts3 : (Try.prog.info? 3).map (fun i => (i.zero, i.size, i.bytes)) = some (some (.int .i64 0), 1, 8) := by kernel_rfl
theorem facts9 : (Try.prog.info? 9).map (fun i => (i.zero, i.size, i.bytes)) = some (some (.string ⟨#[]⟩), 1, 16) := by kernel_rfl

theorem run_make_at (t e : TypeId) (z : Value) (size bytes : Nat) (ht : Try.prog.underlying t = some (.slice e)) (hf : (Try.prog.info? e).map (fun i => (i.zero, i.size, i.bytes)) = some (some z, size, bytes)) (n : Nat) (hn : n ≤ 1048577) (hb : bytes ≤ 32) (w : World) :
    (Instr.makeSlice t (.int .i64 n) (.int .i64 n)).run Try.prog w = .ok (.slice (some ⟨w.heap.size, 0, none⟩) n n) (w.alloc (.cells (madeCells z.cells (n * size)) e)) := by
  obtain ⟨i, hi, h⟩ := Option.map_eq_some_iff.1 hf
  simp only [Prod.mk.injEq] at h
  obtain ⟨h1, rfl, rfl⟩ := h
  have := run_make (P := Try.prog) w t e i z ht hi h1 .i64 .i64 n n (by omega) (by omega) (by
    have h3 : (i.bytes : Int) * (n : Int) ≤ 32 * 1048577 := Int.mul_le_mul (by omega) (by omega) (by omega) (by omega)
    omega) (by omega)
  simpa using this

theorem run_make41 (n : Nat) (hn : n ≤ 1048577) (w : World) : (Instr.makeSlice 41 (.int .i64 n) (.int .i64 n)).run Try.prog w = .ok (.slice (some ⟨w.heap.size, 0, none⟩) n n) (w.alloc (.cells (madeCells zBig (n * 2)) 50)) :=
  run_make_at 41 50 (.agg zBig) 2 32 Try.underlying41 facts50 n hn (by omega) w
theorem run_make28 (n : Nat) (hn : n ≤ 1048577) (w : World) : (Instr.makeSlice 28 (.int .i64 n) (.int .i64 n)).run Try.prog w = .ok (.slice (some ⟨w.heap.size, 0, none⟩) n n) (w.alloc (.cells (madeCells #[.slice none 0 0] n) 41)) := by
  have := run_make_at 28 41 (.slice none 0 0) 1 24 Try.underlying28 facts41 n hn (by omega) w
  rwa [Nat.mul_one] at this

/-- The int64s of a slice. -/
def Ints (w : World) (a : Option Addr) (xs : List Int) : Prop := xs = [] ∨ ∃ b off, a = some ⟨b, off, none⟩ ∧ ∀ j (h : j < xs.length), w.cell? ⟨b, off + j, none⟩ = some (.int .i64 xs[j])
def Fit (xs : List Int) : Prop := ∀ x ∈ xs, -9223372036854775808 ≤ x ∧ x ≤ 9223372036854775807

theorem Ints.below {w w' : World} {a : Option Addr} {zs : List Int} (h : Ints w a zs) (hb : Below w.heap.size w w') : Ints w' a zs := by
  rcases h with h | ⟨b, off, rfl, h⟩
  · exact .inl h
  · exact .inr ⟨b, off, rfl, fun j hj => (hb.cell (World.block_lt_of_cell? _ _ (h j hj))).trans (h j hj)⟩

/-- A row of Ints. -/
def BigRow (w : World) (b : Nat) (xs : List Int) (k : Nat) : Prop := ∀ j (h : j < xs.length), j < k → BigAt w b (j * 2) xs[j]

theorem made_cell (n i : Nat) (hi : i < n * 2) : (madeCells zBig (n * 2))[i]? = some (if i % 2 = 0 then .bool false else .slice none 0 0) := by
  unfold madeCells
  rw [Array.getElem?_map, Array.getElem?_range, if_pos hi]
  have : i % 2 = 0 ∨ i % 2 = 1 := by omega
  rcases this with h | h
  · simp [zBig, h]
  · simp [zBig, h]

set_option maxRecDepth 100000 in
set_option maxHeartbeats 4000000 in
theorem zzBigs_any (a : Option Addr) (xs : List Int) (cap : Nat) (w : World) (hn : xs.length ≤ 1048576) (hx : Ints w a xs) (hf : Fit xs) :
    Calls Try.prog 14 #[.slice a xs.length cap] w fun e w' => (∃ b, e = .returned (.slice (some ⟨b, 0, none⟩) xs.length xs.length) ∧ BigRow w' b xs xs.length ∧ w.heap.size ≤ b ∧ b < w'.heap.size) ∧ Below w.heap.size w w' := by
  have hn1 : (xs.length : Int) ≤ 1048576 := by omega
  have hmk := fun w => run_make41 xs.length (by omega) w
  go_enter Try.func14, Try.ntmps14
  go_wp2_with fail
  have hB0 : Below w.heap.size w (w.alloc (.cells (madeCells zBig (xs.length * 2)) 50)) := (Below.refl _ _).alloc (Nat.le_refl _) _
  have hz0 : w.heap.size < (w.alloc (.cells (madeCells zBig (xs.length * 2)) 50)).heap.size := by simp
  have hc0 : ∀ i, i < xs.length * 2 → (w.alloc (.cells (madeCells zBig (xs.length * 2)) 50)).cell? ⟨w.heap.size, i, none⟩ = some (if i % 2 = 0 then .bool false else .slice none 0 0) := by
    intro i hi
    rw [World.cell?_alloc_new]
    simpa using made_cell xs.length i hi
  have hz1 : ∀ i, (w.alloc (.cells (madeCells zBig (xs.length * 2)) 50)).frozen? ⟨w.heap.size, i, none⟩ = false := by
    intro i
    rw [World.frozen?_alloc_new]
  generalize w.alloc (.cells (madeCells zBig (xs.length * 2)) 50) = W0 at *
  clear hmk
  have HX : Hid (Ints w a xs) := hx
  have HF : Hid (Fit xs) := hf
  have HC0 : Hid (∀ i, i < xs.length * 2 → W0.cell? ⟨w.heap.size, i, none⟩ = some (if i % 2 = 0 then .bool false else .slice none 0 0)) := hc0
  have HZ1 : Hid (∀ i, W0.frozen? ⟨w.heap.size, i, none⟩ = false) := hz1
  clear hx hf hc0 hz1
  go_loopw [4] (fun i wr => ∃ j : Nat, j ≤ xs.length ∧ i = .int .i64 j ∧ Below w.heap.size w wr ∧ w.heap.size < wr.heap.size ∧ (∀ i, i < xs.length * 2 → j * 2 ≤ i → wr.cell? ⟨w.heap.size, i, none⟩ = some (if i % 2 = 0 then .bool false else .slice none 0 0)) ∧ (∀ i, wr.frozen? ⟨w.heap.size, i, none⟩ = false) ∧ BigRow wr w.heap.size xs j) (fun i _ => xs.length - (intOf i).toNat)
  case atStart => exact ⟨0, Nat.zero_le _, rfl, hB0, hz0, fun i hi _ => HC0.out i hi, HZ1.out, fun _ _ h => absurd h (Nat.not_lt_zero _)⟩
  case round =>
    obtain ⟨j, hj, rfl, hbl, hz, hc, hfz, hrow⟩ := hrel
    have HC : Hid (∀ i, i < xs.length * 2 → j * 2 ≤ i → wr.cell? ⟨w.heap.size, i, none⟩ = some (if i % 2 = 0 then .bool false else .slice none 0 0)) := hc
    have HZ : Hid (∀ i, wr.frozen? ⟨w.heap.size, i, none⟩ = false) := hfz
    have HR : Hid (BigRow wr w.heap.size xs j) := hrow
    clear hc hfz hrow HC0 HZ1 hB0 hz0
    by_cases hlt : j < xs.length
    · have hj1 : (j : Int) < xs.length := by omega
      rcases HX.out with h0 | ⟨b, off, rfl, hx⟩
      · rw [h0] at hlt; cases hlt
      have c1 := hx j hlt
      have hxf := HF.out _ (List.getElem_mem hlt)
      have hb := World.block_lt_of_cell? _ _ c1
      simp only at hb
      have d1 : wr.cell? ⟨b, off + j, none⟩ = some (.int .i64 xs[j]) := by rw [hbl.cell hb]; exact c1
      obtain ⟨x, hxe⟩ : ∃ x, x = xs[j] := ⟨_, rfl⟩
      rw [← hxe] at d1 hxf
      have HXE : Hid (x = xs[j]) := hxe
      have k0 : wr.cell? ⟨w.heap.size, j * 2, none⟩ = some (.bool false) := by rw [HC.out (j * 2) (by omega) (by omega), if_pos (by omega)]
      have k1 : wr.cell? ⟨w.heap.size, j * 2 + 1, none⟩ = some (.slice none 0 0) := by rw [HC.out (j * 2 + 1) (by omega) (by omega), if_neg (by omega)]
      have hset := setInt_any w.heap.size (j * 2) x wr.drew hxf.1 hxf.2 k0 k1 (HZ.out _) (HZ.out _)
      have HS : Hid (Calls Try.prog 18 #[.pointer (some ⟨w.heap.size, j * 2, none⟩), .int .i64 x] wr.drew fun e w' => (∃ v, e = .returned v) ∧ Laid wr.drew w' w.heap.size (j * 2) x) := hset
      clear c1 hx HX HF hset hxe k0 k1
      go_wp2_with fail
      go_region_with (go_at_call 18; refine (HS.out).mono ?_; rintro e w' ⟨⟨v, rfl⟩, hL⟩)
      go_wp2_with fail
      go_roundw
      case rel =>
        obtain ⟨l1, l2, l3, l4, l5⟩ := hL
        refine ⟨j + 1, by omega, by go_num, hbl.drew.trans l1, Nat.lt_of_lt_of_le hz l5, fun i hi hji => ?_, fun i => (l4 i).trans (HZ.out i), fun i h hi => ?_⟩
        · exact (l3 i (by omega) (by omega)).trans (HC.out i hi (by omega))
        · by_cases e : i = j
          · subst e
            rw [← HXE.out]
            exact l2
          · obtain ⟨neg, a, l, c, m1, m2, m3⟩ := HR.out i h (by omega)
            exact ⟨neg, a, l, c, (l3 _ (by omega) (by omega)).trans m1, (l3 _ (by omega) (by omega)).trans m2, m3⟩
      case measure => simp [intOf]; omega
    · have hge : (xs.length : Int) ≤ j := by omega
      go_wp2_with fail
      go_ret
      exact ⟨⟨_, rfl, fun i h hi => HR.out i h (by omega), Nat.le_refl _, hz⟩, hbl⟩

theorem BigAt.below {w w' : World} {b o B : Nat} {x : Int} (h : BigAt w b o x) (hb : Below B w w') (hB : b < B) : BigAt w' b o x := by
  obtain ⟨neg, a, l, c, h1, h2, h3⟩ := h
  exact ⟨neg, a, l, c, (hb.cell (p := ⟨b, o, none⟩) hB).trans h1, (hb.cell (p := ⟨b, o + 1, none⟩) hB).trans h2, h3⟩
theorem BigRow.below {w w' : World} {b B k : Nat} {xs : List Int} (h : BigRow w b xs k) (hb : Below B w w') (hB : b < B) : BigRow w' b xs k := fun j hj hk => (h j hj hk).below hb hB
theorem BigAt.set {w : World} {b o : Nat} {x : Int} {p : Addr} {v : Value} (h : BigAt w b o x) (hp : p.block ≠ b) : BigAt (w.setCell p v) b o x := by
  obtain ⟨neg, a, l, c, h1, h2, h3⟩ := h
  have e1 : p ≠ ⟨b, o, none⟩ := fun h => hp (by rw [h])
  have e2 : p ≠ ⟨b, o + 1, none⟩ := fun h => hp (by rw [h])
  exact ⟨neg, a, l, c, (World.cell?_setCell_other _ _ _ _ e1).trans h1, (World.cell?_setCell_other _ _ _ _ e2).trans h2, h3⟩

/-- The columns of a slice of slices that came in. -/
def ColsAt (w : World) (a : Option Addr) (cols : List (List Int)) : Prop := cols = [] ∨ ∃ b off, a = some ⟨b, off, none⟩ ∧ ∀ c (h : c < cols.length), ∃ ra rc, w.cell? ⟨b, off + c, none⟩ = some (.slice ra cols[c].length rc) ∧ Ints w ra cols[c]

theorem ColsAt.below {w w' : World} {a : Option Addr} {cols : List (List Int)} (h : ColsAt w a cols) (hb : Below w.heap.size w w') : ColsAt w' a cols := by
  rcases h with h | ⟨b, off, rfl, h⟩
  · exact .inl h
  · refine .inr ⟨b, off, rfl, fun c hc => ?_⟩
    obtain ⟨ra, rc, h1, h2⟩ := h c hc
    exact ⟨ra, rc, (hb.cell (World.block_lt_of_cell? _ _ h1)).trans h1, h2.below hb⟩

/-- Rows of Ints, k of them laid. -/
def RowsAt (w : World) (blk : Nat) (cols : List (List Int)) (k : Nat) : Prop := ∀ c (h : c < cols.length), c < k → ∃ rb, w.cell? ⟨blk, c, none⟩ = some (.slice (some ⟨rb, 0, none⟩) cols[c].length cols[c].length) ∧ BigRow w rb cols[c] cols[c].length ∧ blk < rb ∧ rb < w.heap.size

theorem RowsAt.below {w w' : World} {blk k : Nat} {cols : List (List Int)} (h : RowsAt w blk cols k) (hb : Below w.heap.size w w') : RowsAt w' blk cols k := by
  intro c hc hk
  obtain ⟨rb, h1, h2, h3, h4⟩ := h c hc hk
  exact ⟨rb, (hb.cell (World.block_lt_of_cell? _ _ h1)).trans h1, h2.below hb h4, h3, Nat.lt_of_lt_of_le h4 hb.size⟩

/-- What zzBigCols hands back. -/
def BigCols (w : World) (a : Option Addr) (cols : List (List Int)) : Prop := cols = [] ∨ ∃ b, a = some ⟨b, 0, none⟩ ∧ RowsAt w b cols cols.length

theorem BigCols.below {w w' : World} {a : Option Addr} {cols : List (List Int)} (h : BigCols w a cols) (hb : Below w.heap.size w w') : BigCols w' a cols := by
  rcases h with h | ⟨b, rfl, h⟩
  · exact .inl h
  · exact .inr ⟨b, rfl, h.below hb⟩

theorem run_eql23 (w : World) (a : Option Addr) (l c : Nat) : (binOp .eql 23 (.slice a l c) (.slice none 0 0)).run Try.prog w = .ok (.bool a.isNone) w := by
  simp only [binOp]
  simp [run_equal_slice_nil w 23 24 a l c Try.underlying23]
attribute [local go_sem] run_eql23

theorem zzBigCols_nil (cap : Nat) (w : World) : Calls Try.prog 8 #[.slice none 0 cap] w fun e w' => e = .returned (.slice none 0 0) ∧ w' = w := by
  go_enter Try.func8, Try.ntmps8
  go_wp2_with fail
  go_ret
  exact ⟨rfl, rfl⟩

set_option maxRecDepth 100000 in
set_option maxHeartbeats 4000000 in
theorem zzBigCols_some (x : Addr) (cols : List (List Int)) (cap : Nat) (w : World) (hn : cols.length ≤ 1048576) (hl : ∀ c ∈ cols, c.length ≤ 1048576 ∧ Fit c) (hx : ColsAt w (some x) cols) :
    Calls Try.prog 8 #[.slice (some x) cols.length cap] w fun e w' => (∃ a, e = .returned (.slice a cols.length cols.length) ∧ BigCols w' a cols) ∧ Below w.heap.size w w' := by
  have hn1 : (cols.length : Int) ≤ 1048576 := by omega
  have hmk := fun w => run_make28 cols.length (by omega) w
  go_enter Try.func8, Try.ntmps8
  go_wp2_with fail
  have hB0 : Below w.heap.size w (w.alloc (.cells (madeCells #[.slice none 0 0] cols.length) 41)) := (Below.refl _ _).alloc (Nat.le_refl _) _
  have hz0 : w.heap.size < (w.alloc (.cells (madeCells #[.slice none 0 0] cols.length) 41)).heap.size := by simp
  have ht0 : (w.alloc (.cells (madeCells #[.slice none 0 0] cols.length) 41)).there w.heap.size 0 cols.length := by
    intro j hj
    rw [Nat.zero_add, World.cell?_alloc_new, World.frozen?_alloc_new]
    simp [size_madeCells, hj]
  generalize w.alloc (.cells (madeCells #[.slice none 0 0] cols.length) 41) = W0 at *
  clear hmk
  have HX : Hid (ColsAt w (some x) cols) := hx
  have HL : Hid (∀ c ∈ cols, c.length ≤ 1048576 ∧ Fit c) := hl
  have HT : Hid (W0.there w.heap.size 0 cols.length) := ht0
  clear hx hl ht0
  go_loopw [4] (fun i wr => ∃ j : Nat, j ≤ cols.length ∧ i = .int .i64 j ∧ Below w.heap.size w wr ∧ w.heap.size < wr.heap.size ∧ wr.there w.heap.size 0 cols.length ∧ RowsAt wr w.heap.size cols j) (fun i _ => cols.length - (intOf i).toNat)
  case atStart => exact ⟨0, Nat.zero_le _, rfl, hB0, hz0, HT.out, fun _ _ h => absurd h (Nat.not_lt_zero _)⟩
  case round =>
    obtain ⟨j, hj, rfl, hbl, hz, ht, hrow⟩ := hrel
    have HR : Hid (RowsAt wr w.heap.size cols j) := hrow
    have HT2 : Hid (wr.there w.heap.size 0 cols.length) := ht
    clear hrow ht HT hB0 hz0
    by_cases hlt : j < cols.length
    · have hj1 : (j : Int) < cols.length := by omega
      rcases HX.out with h0 | ⟨b, off, hxe, hx⟩
      · rw [h0] at hlt; cases hlt
      cases hxe
      obtain ⟨ra, rc, c1, hi⟩ := hx j hlt
      have hlj := HL.out _ (List.getElem_mem hlt)
      have hb := World.block_lt_of_cell? _ _ c1
      simp only at hb
      have d1 : wr.cell? ⟨b, off + j, none⟩ = some (.slice ra cols[j].length rc) := by rw [hbl.cell hb]; exact c1
      have hbg := zzBigs_any ra cols[j] rc wr hlj.1 (hi.below hbl) hlj.2
      obtain ⟨xs, hxs⟩ : ∃ xs, xs = cols[j] := ⟨_, rfl⟩
      rw [← hxs] at d1 hbg
      have HXS : Hid (xs = cols[j]) := hxs
      have HBG : Hid (Calls Try.prog 14 #[.slice ra xs.length rc] wr fun e w' => (∃ b, e = .returned (.slice (some ⟨b, 0, none⟩) xs.length xs.length) ∧ BigRow w' b xs xs.length ∧ wr.heap.size ≤ b ∧ b < w'.heap.size) ∧ Below wr.heap.size wr w') := hbg
      clear hbg hxs hlj hi hx c1 HX HL
      go_wp2_with fail
      refine HBG.out.mono ?_
      rintro e w1 ⟨⟨rb, rfl, hbr, hr1, hr2⟩, hb1⟩
      obtain ⟨hcs, hfz⟩ := HT2.out j hlt
      rw [Nat.zero_add] at hcs hfz
      rw [← hb1.cell (p := ⟨w.heap.size, j, none⟩) hz] at hcs
      rw [← hb1.frozen (p := ⟨w.heap.size, j, none⟩) hz] at hfz
      obtain ⟨cv, hcv⟩ := Option.isSome_iff_exists.1 hcs
      have HBR : Hid (BigRow w1 rb xs xs.length) := hbr
      clear hcs hbr
      go_wp2_with fail
      go_roundw
      case rel =>
        refine ⟨j + 1, by omega, by go_num, (hbl.trans (hb1.mono hbl.size)).setCell (p := ⟨w.heap.size, j, none⟩) (Nat.le_refl _) _, ?_, ?_, ?_⟩
        · exact Nat.lt_of_lt_of_le hz (Nat.le_trans hb1.size (by simp [World.setCell]))
        · refine World.there_setCells (vs := [_]) ?_ w.heap.size j
          intro i hi
          rw [hb1.cell (p := ⟨w.heap.size, 0 + i, none⟩) hz, hb1.frozen (p := ⟨w.heap.size, 0 + i, none⟩) hz]
          exact HT2.out i hi
        · intro c hc hk
          by_cases e : c = j
          · subst e
            refine ⟨rb, ?_, ?_, by omega, Nat.lt_of_lt_of_le hr2 (by simp [World.setCell])⟩
            · rw [← HXS.out]; exact World.cell?_setCell_same _ _ _ hcv
            · rw [← HXS.out]
              exact fun i hi hik => (HBR.out i hi hik).set (by show w.heap.size ≠ rb; omega)
          · obtain ⟨rb', k1, k2, k3, k4⟩ := HR.out.below hb1 c hc (by omega)
            refine ⟨rb', ?_, fun i hi hik => (k2 i hi hik).set (by show w.heap.size ≠ rb'; omega), k3, Nat.lt_of_lt_of_le k4 (by simp [World.setCell])⟩
            exact (World.cell?_setCell_other _ _ _ _ (by simp)).trans k1
      case measure => simp [intOf]; omega
    · have hge : (cols.length : Int) ≤ j := by omega
      go_wp2_with fail
      go_ret
      exact ⟨⟨_, rfl, .inr ⟨_, rfl, fun i h hi => HR.out i h (by omega)⟩⟩, hbl⟩

end Go.Proofs.Qxb6615116a

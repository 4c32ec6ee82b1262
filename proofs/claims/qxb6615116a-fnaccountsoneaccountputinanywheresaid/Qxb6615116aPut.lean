/-
  An account put in at p: the lists, the rows of memory that are filled one by one (seat b6615116a).
-/
import Derived.Test.Qxb6615116aCopy
import Derived.Test.Qxb6615116aPlain
import Derived.Test.Qxb6615116aPrem
namespace Go.Proofs.Qxb6615116a
open Go.RowKit
set_option linter.unusedVariables false

/-- x put in at p. -/
def ins {α : Type} (p : Nat) (x : α) (l : List α) : List α := l.take p ++ x :: l.drop p

theorem ins_length {α : Type} {p : Nat} (x : α) {l : List α} (hp : p ≤ l.length) : (ins p x l).length = l.length + 1 := by
  unfold ins
  simp
  omega
theorem ins_lt {α : Type} {p : Nat} (x : α) {l : List α} (hp : p ≤ l.length) {i : Nat} (h : i < p) : (ins p x l)[i]? = l[i]? := by
  unfold ins
  rw [List.getElem?_append_left (by simp; omega), List.getElem?_take, if_pos h]
theorem ins_at {α : Type} {p : Nat} (x : α) {l : List α} (hp : p ≤ l.length) : (ins p x l)[p]? = some x := by
  unfold ins
  have : (l.take p).length = p := by simp; omega
  rw [List.getElem?_append_right (by omega), this]
  simp
theorem ins_gt {α : Type} {p : Nat} (x : α) {l : List α} (hp : p ≤ l.length) {i : Nat} (h : p ≤ i) : (ins p x l)[i + 1]? = l[i]? := by
  unfold ins
  have : (l.take p).length = p := by simp; omega
  rw [List.getElem?_append_right (by omega), this, show i + 1 - p = (i - p) + 1 by omega, List.getElem?_cons_succ, List.getElem?_drop, show p + (i - p) = i by omega]
theorem ins_sh {α : Type} {p : Nat} (x : α) {l : List α} (hp : p ≤ l.length) (i : Nat) : (ins p x l)[sh p i]? = l[i]? := by
  unfold sh
  split
  · exact ins_gt x hp ‹_›
  · exact ins_lt x hp (by omega)

/-- The columns with the account put in. -/
def putCols (p : Nat) (cols : List (List Int)) (add : List Int) : List (List Int) := List.zipWith (fun c a => ins p a c) cols add

theorem wgh_put (p x : Nat) : ∀ (cols : List (List Int)) (add : List Int), add.length = cols.length → (∀ c ∈ cols, p ≤ c.length) → wgh (putCols p cols add) (sh p x) = wgh cols x
  | [], _, _, _ => by simp [putCols, wgh]
  | c :: cols, [], h, _ => by simp at h
  | c :: cols, a :: add, h, hp => by
    have ih := wgh_put p x cols add (by simpa using h) fun c hc => hp c (List.mem_cons_of_mem _ hc)
    simp only [wgh, putCols, List.getD_eq_getElem?_getD] at ih
    simp only [wgh, putCols, List.zipWith_cons_cons, List.any_cons, ih, List.getD_eq_getElem?_getD, ins_sh a (hp c (List.mem_cons_self ..))]

theorem wgh_at (p : Nat) : ∀ (cols : List (List Int)) (add : List Int), add.length = cols.length → (∀ c ∈ cols, p ≤ c.length) → wgh (putCols p cols add) p = add.any fun a => decide (0 < a)
  | [], [], _, _ => by simp [putCols, wgh]
  | [], _ :: _, h, _ => by simp at h
  | c :: cols, [], h, _ => by simp at h
  | c :: cols, a :: add, h, hp => by
    have ih := wgh_at p cols add (by simpa using h) fun c hc => hp c (List.mem_cons_of_mem _ hc)
    simp only [wgh, putCols, List.getD_eq_getElem?_getD] at ih
    simp only [wgh, putCols, List.zipWith_cons_cons, List.any_cons, ih, List.getD_eq_getElem?_getD, ins_at a (hp c (List.mem_cons_self ..)), Option.getD_some]

theorem putCols_length (p : Nat) (cols : List (List Int)) (add : List Int) (h : add.length = cols.length) : (putCols p cols add).length = cols.length := by
  unfold putCols
  simp
  omega

theorem putCols_mem {p n : Nat} {cols : List (List Int)} {add : List Int} (hp : p ≤ n) (hl : ∀ c ∈ cols, c.length = n ∧ Fit c) (ha : Fit add) : ∀ c ∈ putCols p cols add, c.length = n + 1 ∧ Fit c := by
  intro d hd
  unfold putCols at hd
  rw [List.mem_iff_getElem?] at hd
  obtain ⟨i, hi⟩ := hd
  rw [List.getElem?_zipWith] at hi
  split at hi
  · rename_i c a hc h1
    cases hi
    have h2 := hl c (List.mem_of_getElem? hc)
    have h3 := ha a (List.mem_of_getElem? h1)
    refine ⟨by rw [ins_length a (by omega), h2.1], fun z hz => ?_⟩
    unfold ins at hz
    rcases List.mem_append.1 hz with h | h
    · exact h2.2 z (List.mem_of_mem_take h)
    · rcases List.mem_cons.1 h with h | h
      · rw [h]; exact h3
      · exact h2.2 z (List.mem_of_mem_drop h)
  · cases hi

/-- The first k cells of a row are laid. -/
def Part (w : World) (b : Nat) (vs : List Value) (k : Nat) : Prop := w.there b 0 vs.length ∧ ∀ t v, t < k → vs[t]? = some v → w.cell? ⟨b, t, none⟩ = some v

theorem Part.spot {w : World} {b k : Nat} {vs : List Value} (h : Part w b vs k) (t : Nat) (ht : t < vs.length) : (∃ v, w.cell? ⟨b, t, none⟩ = some v) ∧ w.frozen? ⟨b, t, none⟩ = false := by
  obtain ⟨h1, h2⟩ := h.1 t ht
  rw [Nat.zero_add] at h1 h2
  exact ⟨Option.isSome_iff_exists.1 h1, h2⟩

theorem Part.step {w : World} {b k : Nat} {vs : List Value} (h : Part w b vs k) {v : Value} (hv : vs[k]? = some v) : Part (w.setCell ⟨b, k, none⟩ v) b vs (k + 1) := by
  have hk : k < vs.length := (List.getElem?_eq_some_iff.1 hv).1
  obtain ⟨⟨u, hu⟩, _⟩ := h.spot k hk
  refine ⟨World.there_setCells (vs := [v]) h.1 b k, fun t x ht hx => ?_⟩
  by_cases e : t = k
  · subst e
    rw [hv] at hx
    cases hx
    exact World.cell?_setCell_same _ _ _ hu
  · rw [World.cell?_setCell_other _ _ _ _ (by simp)]
    exact h.2 t x (by omega) hx

theorem Part.below {w w' : World} {b k B : Nat} {vs : List Value} (h : Part w b vs k) (hb : Below B w w') (hB : b < B) : Part w' b vs k :=
  ⟨fun j hj => by rw [hb.cell (p := ⟨b, 0 + j, none⟩) hB, hb.frozen (p := ⟨b, 0 + j, none⟩) hB]; exact h.1 j hj, fun t v ht hv => (hb.cell (p := ⟨b, t, none⟩) hB).trans (h.2 t v ht hv)⟩

theorem facts24 : (Try.prog.info? 24).map (fun i => (i.zero, i.size, i.bytes)) = some (some (.slice none 0 0), 1, 24) := by kernel_rfl
theorem facts2 : (Try.prog.info? 2).map (fun i => (i.zero, i.size, i.bytes)) = some (some (.int .i64 0), 1, 8) := by kernel_rfl
theorem run_make23 (n : Nat) (hn : n ≤ 1048577) (w : World) : (Instr.makeSlice 23 (.int .i64 n) (.int .i64 n)).run Try.prog w = .ok (.slice (some ⟨w.heap.size, 0, none⟩) n n) (w.alloc (.cells (madeCells #[.slice none 0 0] n) 24)) := by
  have := run_make_at 23 24 (.slice none 0 0) 1 24 Try.underlying23 facts24 n hn (by omega) w
  rwa [Nat.mul_one] at this
theorem run_make24 (n : Nat) (hn : n ≤ 1048577) (w : World) : (Instr.makeSlice 24 (.int .i64 n) (.int .i64 n)).run Try.prog w = .ok (.slice (some ⟨w.heap.size, 0, none⟩) n n) (w.alloc (.cells (madeCells #[.int .i64 0] n) 2)) := by
  have := run_make_at 24 2 (.int .i64 0) 1 8 Try.underlying24 facts2 n hn (by omega) w
  rwa [Nat.mul_one] at this

/-- Columns of int64, k of them laid, each in a row of its own. -/
def RowsIn (w : World) (blk : Nat) (cols : List (List Int)) (k : Nat) : Prop := ∀ c (h : c < cols.length), c < k → ∃ rb, w.cell? ⟨blk, c, none⟩ = some (.slice (some ⟨rb, 0, none⟩) cols[c].length cols[c].length) ∧ (∀ i (h : i < cols[c].length), w.cell? ⟨rb, i, none⟩ = some (.int .i64 cols[c][i])) ∧ blk < rb ∧ rb < w.heap.size

theorem RowsIn.below {w w' : World} {blk k : Nat} {cols : List (List Int)} (h : RowsIn w blk cols k) (hb : Below w.heap.size w w') : RowsIn w' blk cols k := by
  intro c hc hk
  obtain ⟨rb, h1, h2, h3, h4⟩ := h c hc hk
  exact ⟨rb, (hb.cell (World.block_lt_of_cell? _ _ h1)).trans h1, fun i hi => (hb.cell (p := ⟨rb, i, none⟩) h4).trans (h2 i hi), h3, Nat.lt_of_lt_of_le h4 hb.size⟩

theorem RowsIn.cols {w : World} {blk : Nat} {cols : List (List Int)} (h : RowsIn w blk cols cols.length) : ColsAt w (some ⟨blk, 0, none⟩) cols := by
  refine .inr ⟨blk, 0, rfl, fun c hc => ?_⟩
  obtain ⟨rb, h1, h2, _, _⟩ := h c hc hc
  rw [Nat.zero_add]
  exact ⟨_, _, h1, .inr ⟨rb, 0, rfl, fun j hj => by rw [Nat.zero_add]; exact h2 j hj⟩⟩

/-- One more column laid down. -/
theorem RowsIn.step {w : World} {blk k rb : Nat} {cols : List (List Int)} (h : RowsIn w blk cols k) (hk : k < cols.length) (ht : w.there blk 0 cols.length) (hrow : ∀ i (h : i < cols[k].length), w.cell? ⟨rb, i, none⟩ = some (.int .i64 cols[k][i])) (h1 : blk < rb) (h2 : rb < w.heap.size) :
    RowsIn (w.setCell ⟨blk, k, none⟩ (.slice (some ⟨rb, 0, none⟩) cols[k].length cols[k].length)) blk cols (k + 1) := by
  obtain ⟨hcs, _⟩ := ht k hk
  rw [Nat.zero_add] at hcs
  obtain ⟨cv, hcv⟩ := Option.isSome_iff_exists.1 hcs
  intro c hc hck
  by_cases e : c = k
  · subst e
    exact ⟨rb, World.cell?_setCell_same _ _ _ hcv, fun i hi => (World.cell?_setCell_other _ _ _ _ (by simp)).trans (hrow i hi), h1, Nat.lt_of_lt_of_le h2 (by simp [World.setCell])⟩
  · obtain ⟨r, k1, k2, k3, k4⟩ := h c hc (by omega)
    refine ⟨r, (World.cell?_setCell_other _ _ _ _ (by simp)).trans k1, fun i hi => (World.cell?_setCell_other _ _ _ _ (by simp)).trans (k2 i hi), k3, Nat.lt_of_lt_of_le k4 (by simp [World.setCell])⟩

theorem Part.ints {w : World} {b : Nat} {xs : List Int} (h : Part w b (xs.map (Value.int .i64)) xs.length) : ∀ i (h : i < xs.length), w.cell? ⟨b, i, none⟩ = some (.int .i64 xs[i]) :=
  fun i hi => h.2 i _ hi (by simp [hi])
theorem Part.names {w : World} {b : Nat} {ss : List ByteArray} (h : Part w b (ss.map Value.string) ss.length) : NamesAt w (some ⟨b, 0, none⟩) ss :=
  .inr ⟨b, 0, rfl, fun i hi => by rw [Nat.zero_add]; exact h.2 i _ hi (by simp [hi])⟩

end Go.Proofs.Qxb6615116a

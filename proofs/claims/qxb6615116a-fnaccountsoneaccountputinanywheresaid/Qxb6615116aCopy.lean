/-
  The copy of the names, the cuts of the columns, zzBigCols and ZZAccounts in one (seat b6615116a).
-/
import Derived.Test.Qxb6615116aLoop
import Derived.Laws.IdiomCopy
namespace Go.Proofs.Qxb6615116a
open Go.RowKit
set_option linter.unusedVariables false

theorem run_make22 (n : Nat) (hn : n ≤ 1048577) (w : World) : (Instr.makeSlice 22 (.int .i64 n) (.int .i64 n)).run Try.prog w = .ok (.slice (some ⟨w.heap.size, 0, none⟩) n n) (w.alloc (.cells (madeCells #[.string ⟨#[]⟩] n) 9)) := by
  have := run_make_at 22 9 (.string ⟨#[]⟩) 1 16 Try.underlying22 facts9 n hn (by omega) w
  rwa [Nat.mul_one] at this

theorem run_neq22 (w : World) (a : Option Addr) (l c : Nat) : (binOp .neq 22 (.slice a l c) (.slice none 0 0)).run Try.prog w = .ok (.bool (!a.isNone)) w := by
  simp only [binOp]
  simp [run_equal_slice_nil w 22 9 a l c Try.underlying22]

theorem info9 : (Try.prog.info? 9).map (·.size) = some 1 := by kernel_rfl

theorem there_made (w : World) (z : Array Value) (n : Nat) (t : TypeId) : (w.alloc (.cells (madeCells z n) t)).there w.heap.size 0 n := by
  intro j hj
  rw [Nat.zero_add, World.cell?_alloc_new, World.frozen?_alloc_new]
  simp [size_madeCells, hj]

theorem below_setCells' {B : Nat} {a w : World} (b : Nat) (hB : B ≤ b) : ∀ (vs : List Value) (o : Nat), Below B a w → Below B a (w.setCells b o vs)
  | [], _, h => h
  | v :: vs, o, h => by
    show Below B a (World.setCells (w.setCell ⟨b, o, none⟩ v) b (o + 1) vs)
    exact below_setCells' b hB vs (o + 1) (h.setCell hB v)

/-- copy(zzc, names), zzc just made. -/
theorem run_copy22 (ty : TypeId) (a : Addr) (ss : List ByteArray) (cap : Nat) (w : World) (hz : NamesAt w (some a) ss) :
    ∃ w', (Builtin.copy_ #[22, 22] ty #[.slice (some ⟨w.heap.size, 0, none⟩) ss.length ss.length, .slice (some a) ss.length cap]).run Try.prog (w.alloc (.cells (madeCells #[.string ⟨#[]⟩] ss.length) 9)) = .ok (goInt ss.length) w' ∧ Below w.heap.size w w' ∧ NamesAt w' (some ⟨w.heap.size, 0, none⟩) ss := by
  have hB0 : Below w.heap.size w (w.alloc (.cells (madeCells #[.string ⟨#[]⟩] ss.length) 9)) := (Below.refl _ _).alloc (Nat.le_refl _) _
  rcases hz with rfl | ⟨b, off, ha, hz⟩
  · exact ⟨_, run_copy_none _ 22 22 ty 9 _ _ _ _ _ _ Try.underlying22 info9 (by simp), hB0, .inl rfl⟩
  · cases ha
    have ht := there_made w #[.string ⟨#[]⟩] ss.length 9
    refine ⟨_, ?_, below_setCells' (w := w.alloc (.cells (madeCells #[.string ⟨#[]⟩] ss.length) 9)) w.heap.size (Nat.le_refl _) (ss.map Value.string) 0 hB0, .inr ⟨w.heap.size, 0, rfl, fun j hj => ?_⟩⟩
    · have := run_copy_cells (P := Try.prog) (w.alloc (.cells (madeCells #[.string ⟨#[]⟩] ss.length) 9)) 22 22 ty 9 w.heap.size 0 ss.length ss.length ⟨b, off, none⟩ ss.length cap (ss.map Value.string) Try.underlying22 info9 (by simp) (by
        intro j v hj
        rw [List.getElem?_map] at hj
        obtain ⟨z, hz1, rfl⟩ := Option.map_eq_some_iff.1 hj
        obtain ⟨hlt, rfl⟩ := List.getElem?_eq_some_iff.1 hz1
        rw [Addr.add_mid, hB0.cell (World.block_lt_of_cell? _ _ (hz j hlt))]
        exact hz j hlt) (fun j hj => (ht j (by simpa using hj)).1) (fun j hj => (ht j (by simpa using hj)).2) (by simp [Value.oneCell'])
      simpa using this
    · have := World.rangeAt_setCells_same (w.alloc (.cells (madeCells #[.string ⟨#[]⟩] ss.length) 9)) w.heap.size 0 (ss.map Value.string) (by simpa using ht) j (.string ss[j]) (by simp [hj])
      simpa using this

/-- Where weights[c:] begins. -/
def tailA (a : Option Addr) (cap c : Nat) : Option Addr := match a with | none => none | some x => if cap = c then some x else some (x.add c)

theorem run_slice_head (a : Option Addr) (n cap c : Nat) (hc : c ≤ n) (hcap : n ≤ cap) (hm : cap ≤ 9223372036854775807) (h0 : a = none → cap = 0) (w : World) : (Instr.sliceAt 23 (.slice a n cap) none (some (.int .i64 c)) none).run Try.prog w = .ok (.slice a c cap) w := by
  cases a with
  | none =>
    obtain rfl := h0 rfl
    obtain rfl : n = 0 := by omega
    obtain rfl : c = 0 := by omega
    kernel_rfl
  | some x =>
    have h1 : (c : Int) ≤ cap := by omega
    simp [go_sem]
    intro h
    omega

theorem run_slice_tail (a : Option Addr) (n cap c : Nat) (hc : c ≤ n) (hcap : n ≤ cap) (hm : cap ≤ 9223372036854775807) (h0 : a = none → cap = 0) (w : World) : (Instr.sliceAt 23 (.slice a n cap) (some (.int .i64 c)) none none).run Try.prog w = .ok (.slice (tailA a cap c) (n - c) (cap - c)) w := by
  cases a with
  | none =>
    obtain rfl := h0 rfl
    obtain rfl : n = 0 := by omega
    obtain rfl : c = 0 := by omega
    kernel_rfl
  | some x =>
    have h1 : (c : Int) ≤ n := by omega
    simp [go_sem]
    rw [if_pos hc]
    rfl

theorem ColsAt.head {w : World} {a : Option Addr} {cols : List (List Int)} (h : ColsAt w a cols) (c : Nat) : ColsAt w a (cols.take c) := by
  rcases h with rfl | ⟨b, off, rfl, h⟩
  · exact .inl (by simp)
  · refine .inr ⟨b, off, rfl, fun j hj => ?_⟩
    have := h j (by simp at hj; omega)
    rwa [← List.getElem_take (h := hj)] at this

theorem ColsAt.tail {w : World} {a : Option Addr} {cols : List (List Int)} (h : ColsAt w a cols) (c cap : Nat) (hcap : cols.length ≤ cap) : ColsAt w (tailA a cap c) (cols.drop c) := by
  rcases h with rfl | ⟨b, off, rfl, h⟩
  · exact .inl (by simp)
  · by_cases hc : cap = c
    · exact .inl (List.drop_eq_nil_of_le (by omega))
    · refine .inr ⟨b, off + c, by simp [tailA, hc, Addr.add_mid], fun j hj => ?_⟩
      have hj' : c + j < cols.length := by simp at hj; omega
      have := h (c + j) hj'
      rw [List.getElem_drop, Nat.add_assoc]
      exact this

theorem zzBigCols_any (a : Option Addr) (cols : List (List Int)) (cap : Nat) (w : World) (hn : cols.length ≤ 1048576) (hl : ∀ c ∈ cols, c.length ≤ 1048576 ∧ Fit c) (h0 : a = none → cols = []) (hx : ColsAt w a cols) :
    Calls Try.prog 8 #[.slice a cols.length cap] w fun e w' => (∃ a', e = .returned (.slice a' cols.length cols.length) ∧ BigCols w' a' cols) ∧ Below w.heap.size w w' := by
  cases a with
  | none =>
    obtain rfl := h0 rfl
    exact (zzBigCols_nil cap w).mono fun e w' ⟨he, hw⟩ => ⟨⟨none, he, .inl rfl⟩, by rw [hw]; exact Below.refl _ _⟩
  | some x => exact zzBigCols_some x cols cap w hn hl hx

theorem wgh_cut (cols : List (List Int)) (c i : Nat) : wgh cols i = (wgh (cols.take c) i || wgh (cols.drop c) i) := by
  unfold wgh
  rw [← List.any_append, List.take_append_drop]

end Go.Proofs.Qxb6615116a

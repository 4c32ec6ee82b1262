/-
  zzCounts (seat b6615116a).
-/
import Derived.Test.Qxb6615116aSmall
namespace Go.Proofs.Qxb6615116a
open Go.RowKit Go.Shelf Go.Lib Go.Sort
set_option linter.unusedVariables false

theorem run_make26 (n : Nat) (hn : n ≤ 1048577) (w : World) : (Instr.makeSlice 26 (.int .i64 n) (.int .i64 n)).run Try.prog w = .ok (.slice (some ⟨w.heap.size, 0, none⟩) n n) (w.alloc (.cells (madeCells #[.int .i64 0] n) 3)) := by
  have := run_make_at 26 3 (.int .i64 0) 1 8 Try.underlying26 facts3 n hn (by omega) w
  rwa [Nat.mul_one] at this

set_option maxHeartbeats 4000000 in
theorem zzCounts_any (a : Option Addr) (c n : Nat) (ds : List Nat) (w : World) (hn : n ≤ 1048577) (hdl : ds.length ≤ 1048577) (hd : ∀ x ∈ ds, x < n) (hA : NumsAt w a ds) :
    Calls Try.prog 9 #[.slice a ds.length c, .int .i64 n] w fun e w' => (∃ b, e = .returned (.tuple #[.slice (some ⟨b, 0, none⟩) n n, .bool true]) ∧ ∀ i, i < n → w'.cell? ⟨b, i, none⟩ = some (.int .i64 (ds.count i : Int))) ∧ RowKit.Below w.heap.size w w' := by
  have hn1 : (n : Int) ≤ 1048577 := by omega
  have hd1 : (ds.length : Int) ≤ 1048577 := by omega
  have hmk := fun w => run_make26 n hn w
  have HD : Hid (∀ x ∈ ds, x < n) := hd
  have HA : Hid (NumsAt w a ds) := hA
  clear hd hA
  go_enter Try.func9, Try.ntmps9
  go_wp2_with fail
  have hB0 : RowKit.Below w.heap.size w (w.alloc (.cells (madeCells #[.int .i64 0] n) 3)) := (RowKit.Below.refl _ _).alloc (Nat.le_refl _) _
  have hc0 : ∀ i, i < n → (w.alloc (.cells (madeCells #[.int .i64 0] n) 3)).cell? ⟨w.heap.size, i, none⟩ = some (.int .i64 0) := by
    intro i hi
    rw [World.cell?_alloc_new]
    unfold madeCells
    rw [Array.getElem?_map, Array.getElem?_range, if_pos hi]
    simp [Nat.mod_one]
  have hf0 : ∀ i, (w.alloc (.cells (madeCells #[.int .i64 0] n) 3)).frozen? ⟨w.heap.size, i, none⟩ = false := fun i => by rw [World.frozen?_alloc_new]
  generalize w.alloc (.cells (madeCells #[.int .i64 0] n) 3) = W0 at *
  clear hmk
  have HC0 : Hid (∀ i, i < n → W0.cell? ⟨w.heap.size, i, none⟩ = some (.int .i64 0)) := hc0
  have HF0 : Hid (∀ i, W0.frozen? ⟨w.heap.size, i, none⟩ = false) := hf0
  clear hc0 hf0
  go_loopw [7] (fun v wr => ∃ j : Nat, j ≤ ds.length ∧ v = .int .i64 j ∧ RowKit.Below w.heap.size w wr ∧ (∀ i, i < n → wr.cell? ⟨w.heap.size, i, none⟩ = some (.int .i64 ((ds.take j).count i : Int))) ∧ (∀ i, wr.frozen? ⟨w.heap.size, i, none⟩ = false)) (fun v _ => ds.length - (intOf v).toNat)
  case atStart => exact ⟨0, Nat.zero_le _, rfl, hB0, fun i hi => by simpa using HC0.out i hi, HF0.out⟩
  case round =>
    obtain ⟨j, hj, rfl, hbl, hc, hf⟩ := hrel
    have HC : Hid (∀ i, i < n → wr.cell? ⟨w.heap.size, i, none⟩ = some (.int .i64 ((ds.take j).count i : Int))) := hc
    have HF : Hid (∀ i, wr.frozen? ⟨w.heap.size, i, none⟩ = false) := hf
    clear hc hf HC0 HF0 hB0
    by_cases hlt : j < ds.length
    · rcases HA.out with h0 | ⟨b, rfl, hr⟩
      · rw [h0] at hlt; cases hlt
      have c1 := hr j hlt
      have d1 : wr.cell? ⟨b, j, none⟩ = some (.int .i64 (ds[j] : Int)) := by rw [hbl.cell (World.block_lt_of_cell? _ _ c1)]; exact c1
      have hx : ds[j] < n := HD.out _ (List.getElem_mem hlt)
      have k1 := HC.out _ hx
      have f1 := HF.out ds[j]
      have hcl : (ds.take j).count ds[j] ≤ 1048577 := Nat.le_trans List.count_le_length (by simp; omega)
      have HT : Hid (ds.take (j + 1) = ds.take j ++ [ds[j]]) := List.take_succ_eq_append_getElem hlt
      have hj1 : (j : Int) < ds.length := by omega
      clear hr c1
      generalize ds[j] = x at *
      obtain ⟨y, hy⟩ : ∃ y, y = (ds.take j).count x := ⟨_, rfl⟩
      rw [← hy] at k1 hcl
      have HY : Hid (y = (ds.take j).count x) := hy
      clear hy
      have hx0 : ¬ ((x : Int) < 0) := by omega
      have hx1 : decide ((x : Int) < 0) = false := by simp
      have hx2 : ¬ ((n : Int) ≤ x) := by omega
      have hx3 : (x : Int) < n := by omega
      have hy1 : (y : Int) ≤ 1048577 := by omega
      go_wp2_with fail
      go_roundw
      case rel =>
        refine ⟨j + 1, by omega, by go_num, hbl.setCell (p := ⟨w.heap.size, x, none⟩) (Nat.le_refl _) _, fun i hi => ?_, fun i => by rw [World.frozen?_setCell]; exact HF.out i⟩
        rw [HT.out, List.count_append, List.count_singleton]
        by_cases e : i = x
        · subst e
          rw [World.cell?_setCell_same _ _ _ k1, HY.out]
          simp
        · have e2 : (x == i) = false := by simp; omega
          rw [World.cell?_setCell_other _ _ _ _ (by simp), HC.out i hi, e2]
          simp
      case measure => simp [intOf]; omega
    · have hge : (ds.length : Int) ≤ j := by omega
      have ht : ds.take j = ds := List.take_of_length_le (by omega)
      have HT : Hid (ds.take j = ds) := ht
      clear ht
      go_wp2_with fail
      go_ret2
      exact ⟨⟨_, rfl, fun i hi => by rw [HC.out i hi, HT.out]⟩, hbl⟩

end Go.Proofs.Qxb6615116a

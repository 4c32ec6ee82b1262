/-
  ZZAccounts, zzWeighs, zzCounts, zzNameOrdered (seat b6615116a).
-/
import Derived.Test.Qxb6615116aAccts
namespace Go.Proofs.Qxb6615116a
open Go.RowKit Go.Shelf Go.Lib Go.Sort
set_option linter.unusedVariables false

theorem zzAccounts_any (na : Option Addr) (names : List ByteArray) (nc : Nat) (wa : Option Addr) (cols : List (List Int)) (wc : Nat) (w : World) (hn : names.length ≤ 1048577) (hm : cols.length ≤ 1048576) (hl : ∀ c ∈ cols, c.length = names.length) (hL : ∀ c ∈ cols, c.length ≤ 1048576)
    (hN : NamesAt w na names) (hW : BigCols w wa cols) :
    Calls Try.prog 7 #[.slice na names.length nc, .slice wa cols.length wc] w fun e w' => (∃ a c ds, e = .returned (.slice a (List.length ds) c) ∧ ds.Perm (picked cols names.length) ∧ Srt names ds ∧ NumsAt w' a ds) ∧ RowKit.Below w.heap.size w w' := by
  have hb := fun w => run_build39 na wa names.length nc cols.length wc w
  have hA := accounts_any na names nc wa cols wc w hn hm hl hL hN hW
  have HA : Hid (Calls Try.prog 13 #[.agg (wts (.slice na names.length nc) (.slice wa cols.length wc))] w fun e w' => (∃ a c ds, e = .returned (.slice a (List.length ds) c) ∧ ds.Perm (picked cols names.length) ∧ Srt names ds ∧ NumsAt w' a ds) ∧ RowKit.Below w.heap.size w w') := hA
  clear hA hl hL hN hW
  go_enter Try.func7, Try.ntmps7
  go_wp2_with fail
  refine HA.out.mono ?_
  rintro e w' ⟨⟨a, c, ds, rfl, h1, h2, h3⟩, hb2⟩
  have HD : Hid (ds.Perm (picked cols names.length) ∧ Srt names ds ∧ NumsAt w' a ds) := ⟨h1, h2, h3⟩
  clear h1 h2 h3
  go_wp2_with fail
  go_ret
  exact ⟨⟨a, c, ds, rfl, HD.out⟩, hb2⟩


set_option maxHeartbeats 4000000 in
theorem zzWeighs_any (a : Option Addr) (cols : List (List Int)) (cap i : Nat) (w : World) (hn : cols.length ≤ 1048576) (hl : ∀ c ∈ cols, c.length ≤ 1048576) (hi : ∀ c ∈ cols, i < c.length) (hC : ColsAt w a cols) :
    Calls Try.prog 10 #[.slice a cols.length cap, .int .i64 i] w fun e w' => e = .returned (.bool (wgh cols i)) ∧ w' = w := by
  have hn1 : (cols.length : Int) ≤ 1048576 := by omega
  have HC : Hid (ColsAt w a cols) := hC
  have HI : Hid (∀ c ∈ cols, i < c.length) := hi
  have HL : Hid (∀ c ∈ cols, c.length ≤ 1048576) := hl
  clear hC hi hl
  go_enter Try.func10, Try.ntmps10
  go_wp2_with fail
  go_loop [5] (fun v => ∃ j : Nat, j ≤ cols.length ∧ v = .int .i64 j ∧ (cols.take j).any (fun c => decide (0 < c.getD i 0)) = false) (fun v => cols.length - (intOf v).toNat)
  case atStart => exact ⟨0, Nat.zero_le _, rfl, rfl⟩
  case round =>
    obtain ⟨j, hj, rfl, hno⟩ := hrel
    have HN : Hid ((cols.take j).any (fun c => decide (0 < c.getD i 0)) = false) := hno
    clear hno
    by_cases hlt : j < cols.length
    · have hj1 : (j : Int) < cols.length := by omega
      have hij : i < cols[j].length := HI.out _ (List.getElem_mem hlt)
      have hlj : cols[j].length ≤ 1048576 := HL.out _ (List.getElem_mem hlt)
      rcases HC.out with h0 | ⟨b, off, rfl, hr⟩
      · rw [h0] at hlt; cases hlt
      obtain ⟨ra, rc, c1, hx⟩ := hr j hlt
      rcases hx with h0 | ⟨rb, ro, rfl, hx⟩
      · rw [h0] at hij; cases hij
      have c2 := hx i hij
      have hval : cols[j][i] = cols[j].getD i 0 := by rw [List.getD_eq_getElem?_getD, List.getElem?_eq_getElem hij]; rfl
      rw [hval] at c2
      have hij1 : (i : Int) < cols[j].length := by omega
      have hlj1 : (cols[j].length : Int) ≤ 1048576 := by omega
      have ht : (cols.take (j + 1)).any (fun c => decide (0 < c.getD i 0)) = ((cols.take j).any (fun c => decide (0 < c.getD i 0)) || decide (0 < cols[j].getD i 0)) := by
        rw [List.take_succ_eq_append_getElem hlt, List.any_append, List.any_cons, List.any_nil, Bool.or_false]
      have HT : Hid ((cols.take (j + 1)).any (fun c => decide (0 < c.getD i 0)) = ((cols.take j).any (fun c => decide (0 < c.getD i 0)) || decide (0 < cols[j].getD i 0))) := ht
      have HG : Hid (0 < cols[j].getD i 0 → wgh cols i = true) := fun h => List.any_eq_true.2 ⟨_, List.getElem_mem hlt, by simpa using h⟩
      clear ht hr hx hval
      generalize cols[j].length = m at *
      generalize cols[j].getD i 0 = x at *
      by_cases hx : 0 < x
      · go_wp2_with fail
        go_ret
        exact ⟨by rw [HG.out hx]; rfl, rfl⟩
      · go_wp2_with fail
        go_round
        case rel => exact ⟨j + 1, by omega, by go_num, by rw [HT.out, HN.out]; simpa using hx⟩
        case measure => simp [intOf]; omega
    · have hge : (cols.length : Int) ≤ j := by omega
      have HF : Hid (wgh cols i = false) := by
        have := HN.out
        rwa [List.take_of_length_le (by omega)] at this
      go_wp2_with fail
      go_ret
      exact ⟨by rw [HF.out]; rfl, rfl⟩


/-- Are neighbours in name order? -/
def ord (names : List ByteArray) (ds : List Nat) : Prop := ∀ k (h : k + 1 < ds.length), ltN names ds[k + 1] (ds[k]'(by omega)) = false

set_option maxHeartbeats 4000000 in
theorem zzNameOrdered_any (na a : Option Addr) (names : List ByteArray) (nc c : Nat) (ds : List Nat) (w : World) (hn : names.length ≤ 1048577) (hdl : ds.length ≤ 1048577) (hd : ∀ x ∈ ds, x < names.length) (hs : Srt names ds) (hN : NamesAt w na names) (hA : NumsAt w a ds) :
    Calls Try.prog 12 #[.slice na names.length nc, .slice a ds.length c] w fun e w' => e = .returned (.bool true) ∧ RowKit.Below w.heap.size w w' := by
  have hn1 : (names.length : Int) ≤ 1048577 := by omega
  have hd1 : (ds.length : Int) ≤ 1048577 := by omega
  have HD : Hid (∀ x ∈ ds, x < names.length) := hd
  have HS : Hid (Srt names ds) := hs
  have HN : Hid (NamesAt w na names) := hN
  have HA : Hid (NumsAt w a ds) := hA
  clear hd hs hN hA
  go_enter Try.func12, Try.ntmps12
  go_wp2_with fail
  go_loopw [5] (fun v wr => ∃ j : Nat, j ≤ ds.length + 1 ∧ 1 ≤ j ∧ v = .int .i64 j ∧ RowKit.Below w.heap.size w wr) (fun v _ => ds.length + 1 - (intOf v).toNat)
  case atStart => exact ⟨1, by omega, by omega, rfl, RowKit.Below.refl _ _⟩
  case round =>
    obtain ⟨j, hj, hj0, rfl, hbl⟩ := hrel
    by_cases hlt : j < ds.length
    · obtain ⟨i, rfl⟩ : ∃ i, j = i + 1 := ⟨j - 1, by omega⟩
      rcases HA.out with h0 | ⟨b, rfl, hr⟩
      · rw [h0] at hlt; cases hlt
      have c1 := hr i (by omega)
      have c2 := hr (i + 1) hlt
      have g1 := HD.out _ (List.getElem_mem (show i < ds.length by omega))
      have g2 := HD.out _ (List.getElem_mem hlt)
      rcases HN.out with h0 | ⟨nb, no, rfl, hN⟩
      · rw [h0] at g1; cases g1
      have n1 := hN _ g1
      have n2 := hN _ g2
      have hsr := HS.out i (i + 1) hlt (by omega)
      unfold ltN at hsr
      have e1 : nm names ds[i] = names[ds[i]] := by unfold nm; rw [List.getD_eq_getElem?_getD, List.getElem?_eq_getElem g1]; rfl
      have e2 : nm names ds[i + 1] = names[ds[i + 1]] := by unfold nm; rw [List.getD_eq_getElem?_getD, List.getElem?_eq_getElem g2]; rfl
      rw [e1, e2] at hsr
      have d1 : wr.cell? ⟨b, i, none⟩ = some (.int .i64 (ds[i] : Int)) := by rw [hbl.cell (World.block_lt_of_cell? _ _ c1)]; exact c1
      have d2 : wr.cell? ⟨b, i + 1, none⟩ = some (.int .i64 (ds[i + 1] : Int)) := by rw [hbl.cell (World.block_lt_of_cell? _ _ c2)]; exact c2
      have m1 : wr.cell? ⟨nb, no + ds[i], none⟩ = some (.string names[ds[i]]) := by rw [hbl.cell (World.block_lt_of_cell? _ _ n1)]; exact n1
      have m2 : wr.cell? ⟨nb, no + ds[i + 1], none⟩ = some (.string names[ds[i + 1]]) := by rw [hbl.cell (World.block_lt_of_cell? _ _ n2)]; exact n2
      have hor : (Op.bytesLess names[ds[i]].toList names[ds[i + 1]].toList || names[ds[i]].toList == names[ds[i + 1]].toList) = true := by
        rw [less_lt, decide_eq_false_iff_not, List.not_lt] at hsr
        rw [Bool.or_eq_true, less_lt, decide_eq_true_eq, beq_iff_eq]
        rcases List.le_iff_lt_or_eq.1 hsr with h | h
        · exact .inl h
        · exact .inr h
      clear e1 e2 hsr n1 n2 c1 c2 hr hN
      have g11 : ((ds[i] : Nat) : Int) < names.length := by omega
      have g21 : ((ds[i + 1] : Nat) : Int) < names.length := by omega
      have hi1 : (i : Int) + 1 < ds.length := by omega
      generalize names[ds[i]] = s1 at *
      generalize names[ds[i + 1]] = s2 at *
      generalize ds[i] = x1 at *
      generalize ds[i + 1] = x2 at *
      go_wp2_with fail
      go_quiet (fail)
      go_wp2_with fail
      go_roundw
      case rel => exact ⟨i + 1 + 1, by omega, by omega, by go_num, ⟨hbl.os, hbl.tape, hbl.output, hbl.size, hbl.block⟩⟩
      case measure => simp [intOf]; omega
    · have hge : (ds.length : Int) ≤ j := by omega
      go_wp2_with fail
      go_ret
      exact ⟨rfl, hbl⟩

end Go.Proofs.Qxb6615116a

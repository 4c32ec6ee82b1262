/-
  The walk of FnAccountsAreTheWeighingOnesInNameOrderOverAnyCutOfColumns (seat b6615116a).
-/
import Derived.Test.Qxb6615116aCount
import Derived.Test.Qxb6615116aBytes
import Derived.Test.Qxb6615116aCopy
import Derived.Test.Qxb6615116aPlain
import Derived.Deep.Cut
namespace Go.Proofs.Qxb6615116a
open Go.RowKit
set_option linter.unusedVariables false
attribute [local go_sem] run_neq22

theorem NumsAt.below {w w' : World} {a : Option Addr} {ds : List Nat} (h : NumsAt w a ds) (hb : Below w.heap.size w w') : NumsAt w' a ds := by
  rcases h with h | ⟨b, rfl, h⟩
  · exact .inl h
  · exact .inr ⟨b, rfl, fun j hj => (hb.cell (World.block_lt_of_cell? _ _ (h j hj))).trans (h j hj)⟩

/-- What zzCounts hands back, for the weighing ones. -/
def CountsAt (w : World) (b n : Nat) (f : Nat → Bool) : Prop := ∀ i, i < n → w.cell? ⟨b, i, none⟩ = some (.int .i64 (if f i then 1 else 0))
theorem CountsAt.below {w w' : World} {b n : Nat} {f : Nat → Bool} (h : CountsAt w b n f) (hb : Below w.heap.size w w') : CountsAt w' b n f :=
  fun i hi => (hb.cell (World.block_lt_of_cell? _ _ (h i hi))).trans (h i hi)

theorem picked_lt {cols : List (List Int)} {n : Nat} {ds : List Nat} (hp : ds.Perm (picked cols n)) : ∀ x ∈ ds, x < n := fun x hx => List.mem_range.1 (List.mem_filter.1 (hp.subset hx)).1

theorem counts_picked (a : Option Addr) (c n : Nat) (cols : List (List Int)) (ds : List Nat) (w : World) (hn : n ≤ 1048576) (hp : ds.Perm (picked cols n)) (hA : NumsAt w a ds) :
    Calls Try.prog 9 #[.slice a ds.length c, .int .i64 n] w fun e w' => (∃ b, e = .returned (.tuple #[.slice (some ⟨b, 0, none⟩) n n, .bool true]) ∧ CountsAt w' b n (wgh cols)) ∧ Below w.heap.size w w' := by
  refine (zzCounts_any a c n ds w (by omega) (by have := hp.length_eq; have := picked_le cols n; omega) (picked_lt hp) hA).mono fun e w' ⟨⟨b, he, hc⟩, hb⟩ => ⟨⟨b, he, fun i hi => ?_⟩, hb⟩
  rw [hc i hi, count_picked (wgh cols) n ds hp i hi]
  split <;> rfl

set_option maxRecDepth 100000 in
set_option maxHeartbeats 16000000 in
theorem law4 (na : Option Addr) (names : List ByteArray) (nc : Nat) (wa : Option Addr) (cols : List (List Int)) (wcap : Nat) (cut : Int) (w : World) (hn : names.length ≤ maxLen) (hm : cols.length ≤ wcap) (hcap : wcap ≤ maxLen) (hs : ∀ s ∈ names, s.size ≤ maxLen) (hl : ∀ c ∈ cols, c.length ≤ maxLen ∧ Fit c)
    (hN : NamesAt w na names) (hC : ColsAt w wa cols) (hw0 : wa = none → wcap = 0 ∧ cols = []) :
    Calls Try.prog 4 #[.slice na names.length nc, .slice wa cols.length wcap, .int .i64 cut] w fun e w' => e = .returned (.bool true) ∧ Below w.heap.size w w' := by
  have hzb := zzBytes4_any na names nc wa cols wcap cut w hn (Nat.le_trans hm hcap) hs (fun c hc => (hl c hc).1) hN hC
  unfold maxLen at *
  have HZB : Hid (Calls Try.prog 11 #[.slice na names.length nc, .slice wa cols.length wcap, .int .i64 cut] w fun e w' => Small names cols e ∧ w' = w) := hzb
  have HN : Hid (NamesAt w na names) := hN
  have HC : Hid (ColsAt w wa cols) := hC
  have HF : Hid (∀ c ∈ cols, Fit c) := fun c hc => (hl c hc).2
  have HW0 : Hid (wa = none → wcap = 0 ∧ cols = []) := hw0
  clear hN hC hs hl hzb hw0
  go_enter Try.func4, Try.ntmps4
  go_wp2_with fail
  refine HZB.out.mono ?_
  rintro e w' ⟨⟨x, rfl, hx⟩, rfl⟩
  have hB0 := Below.refl w'.heap.size w'
  cases x
  · go_wp2_with fail
    go_ret
    exact ⟨rfl, hB0⟩
  have HS : Hid (∀ s ∈ names, s.size ≤ 1048576) := (hx rfl).1
  have HL : Hid (∀ c ∈ cols, c.length ≤ 1048576) := (hx rfl).2
  clear hx HZB
  by_cases l1 : 65536 < (names.length : Int)
  · go_wp2_with fail
    go_ret
    exact ⟨rfl, hB0⟩
  by_cases l2 : 65536 < (cols.length : Int)
  · go_wp2_with fail
    go_ret
    exact ⟨rfl, hB0⟩
  go_upto_if 38 with fail
  go_cut [0] from 37 (fun n wr => ∃ a c, n = .slice a names.length c ∧ NamesAt wr a names ∧ Below w'.heap.size w' wr)
  case first =>
    cases na with
    | none =>
      go_wp2_with fail
      go_meet
      case rel => exact ⟨_, _, rfl, HN.out, hB0⟩
    | some x =>
      have hmk := fun w => run_make22 names.length (by omega) w
      obtain ⟨W2, hcp, hcB, hcN⟩ := run_copy22 3 x names nc w' HN.out
      go_wp2_with (refine Lib.wpList_copy_run _ rfl _ _ 22 22 rfl _ _ rfl rfl hcp ?_)
      go_meet
      case rel => exact ⟨_, _, rfl, hcN, hcB⟩
  case rest =>
  obtain ⟨nb, nd, rfl, hN1, hB1⟩ := hcut
  have HN1 : Hid (NamesAt wc nb names) := hN1
  have HC1 : Hid (ColsAt wc wa cols) := HC.out.below hB1
  clear HN HC hN1 hB0
  go_wp2_with fail
  go_loop [8, 9] (fun z i => ∃ j k : Nat, j ≤ names.length ∧ k ≤ 1048576 ∧ z = .int .i64 k ∧ i = .int .i64 j) (fun _ i => names.length - (intOf i).toNat)
  case atStart => exact ⟨0, 0, Nat.zero_le _, by omega, rfl, rfl⟩
  case round =>
  obtain ⟨j, k, hj, hk, rfl, rfl⟩ := hrel
  by_cases hlt : j < names.length
  · have hj1 : (j : Int) < names.length := by omega
    rcases HN1.out with h0 | ⟨b, off, rfl, hx⟩
    · rw [h0] at hlt; cases hlt
    have c1 := hx j hlt
    have hsz := HS.out _ (List.getElem_mem hlt)
    clear hx
    generalize names[j] = s at *
    by_cases h3 : 1048576 < (k : Int) + (s.size + 8)
    · go_wp2_with fail
      go_ret
      exact ⟨rfl, hB1⟩
    go_wp2_with fail
    go_round
    case rel => exact ⟨j + 1, k + (s.size + 8), by omega, by omega, by go_num, by go_num⟩
    case measure => simp [intOf]; omega
  have hge : (names.length : Int) ≤ j := by omega
  go_wp2_with fail
  clear hlt hge hj
  go_loop [8, 10] (fun z i => ∃ j k : Nat, j ≤ cols.length ∧ k ≤ 1048576 ∧ z = .int .i64 k ∧ i = .int .i64 j) (fun _ i => cols.length - (intOf i).toNat)
  case atStart => exact ⟨0, k, Nat.zero_le _, by omega, rfl, rfl⟩
  case round =>
  rename_i j0 _ _ _
  clear hk
  obtain ⟨j, k, hj, hk, rfl, rfl⟩ := hrel
  by_cases hlt : j < cols.length
  · have hj1 : (j : Int) < cols.length := by omega
    rcases HC1.out with h0 | ⟨b, off, rfl, hx⟩
    · rw [h0] at hlt; cases hlt
    obtain ⟨ra, rc, c1, _⟩ := hx j hlt
    have hsz := HL.out _ (List.getElem_mem hlt)
    clear hx
    generalize cols[j].length = s at *
    by_cases h3 : 1048576 < (k : Int) + (8 * s + 8)
    · go_wp2_with fail
      go_ret
      exact ⟨rfl, hB1⟩
    go_wp2_with fail
    go_round
    case rel => exact ⟨j + 1, k + (8 * s + 8), by omega, by omega, by go_num, by go_num⟩
    case measure => simp [intOf]; omega
  have hge : (cols.length : Int) ≤ j := by omega
  by_cases g1 : cut < 0
  · go_wp2_with fail
    go_ret
    exact ⟨rfl, hB1⟩
  by_cases g2 : (cols.length : Int) < cut
  · have g3 : decide (cut < 0) = false := by simpa using g1
    go_wp2_with fail
    go_ret
    exact ⟨rfl, hB1⟩
  obtain ⟨c, rfl⟩ : ∃ c : Nat, cut = c := ⟨cut.toNat, by omega⟩
  have hcl : c ≤ cols.length := by omega
  have g3 : decide ((c : Int) < 0) = false := by simp
  go_wp2_with fail
  clear hlt hge hj hk
  go_loop [12] (fun i => ∃ j : Nat, j ≤ cols.length ∧ i = .int .i64 j ∧ ∀ t (h : t < cols.length), t < j → cols[t].length = names.length) (fun i => cols.length - (intOf i).toNat)
  case atStart => exact ⟨0, Nat.zero_le _, rfl, fun _ _ h => absurd h (Nat.not_lt_zero _)⟩
  case round =>
  obtain ⟨j, hj, rfl, hq⟩ := hrel
  have HQ : Hid (∀ t (h : t < cols.length), t < j → cols[t].length = names.length) := hq
  clear hq
  by_cases hlt : j < cols.length
  · have hj1 : (j : Int) < cols.length := by omega
    have HE : Hid (cols[j].length = names.length → ∀ t (h : t < cols.length), t < j + 1 → cols[t].length = names.length) := by
      intro h t ht hj
      by_cases e : t = j
      · subst e; exact h
      · exact HQ.out t ht (by omega)
    rcases HC1.out with h0 | ⟨b, off, rfl, hx⟩
    · rw [h0] at hlt; cases hlt
    obtain ⟨ra, rc, c1, _⟩ := hx j hlt
    have hsz := HL.out _ (List.getElem_mem hlt)
    clear hx
    generalize cols[j].length = s at *
    by_cases h3 : s = names.length
    · have h4 : ((s : Int) != (names.length : Int)) = false := by simp [h3]
      go_wp2_with fail
      go_round
      case rel => exact ⟨j + 1, by omega, by go_num, HE.out h3⟩
      case measure => simp [intOf]; omega
    · have h4 : ((s : Int) != (names.length : Int)) = true := by simp; omega
      go_wp2_with fail
      go_ret
      exact ⟨rfl, hB1⟩
  have hge : (cols.length : Int) ≤ j := by omega
  have HE : Hid (∀ c ∈ cols, c.length = names.length) := by
    intro s hs
    obtain ⟨t, ht, rfl⟩ := List.getElem_of_mem hs
    exact HQ.out t ht (by omega)
  clear HQ
  have n1 : names.length ≤ 1048576 := by omega
  have n2 : cols.length ≤ 1048576 := by omega
  -- all
  have A1 := zzBigCols_any wa cols wcap wc n2 (fun c hc => ⟨HL.out c hc, HF.out c hc⟩) (fun h => (HW0.out h).2) HC1.out
  have HA1 : Hid (Calls Try.prog 8 #[.slice wa cols.length wcap] wc fun e w' => (∃ a', e = .returned (.slice a' cols.length cols.length) ∧ BigCols w' a' cols) ∧ Below wc.heap.size wc w') := A1
  clear A1
  go_wp2_with fail
  refine HA1.out.mono ?_
  rintro e W1 ⟨⟨a1, rfl, hb1⟩, hB2⟩
  have A2 := zzAccounts_any nb names nd a1 cols cols.length W1 (by omega) n2 HE.out HL.out (HN1.out.below hB2) hb1
  have HA2 : Hid (Calls Try.prog 7 #[.slice nb names.length nd, .slice a1 cols.length cols.length] W1 fun e w' => (∃ a c ds, e = .returned (.slice a (List.length ds) c) ∧ ds.Perm (picked cols names.length) ∧ Srt names ds ∧ NumsAt w' a ds) ∧ Below W1.heap.size W1 w') := A2
  clear A2 hb1 HA1
  go_wp2_with fail
  refine HA2.out.mono ?_
  rintro e W2 ⟨⟨x1, c1, d1, rfl, hp1, hs1, hn1⟩, hB3⟩
  have HD1 : Hid (d1.Perm (picked cols names.length) ∧ Srt names d1) := ⟨hp1, hs1⟩
  have HM1 : Hid (NumsAt W2 x1 d1) := hn1
  have hB4 := hB2.trans (hB3.mono hB2.size)
  have HN2 : Hid (NamesAt W2 nb names) := HN1.out.below hB4
  have HC2 : Hid (ColsAt W2 wa cols) := HC1.out.below hB4
  replace hB4 := hB1.trans (hB4.mono hB1.size)
  clear HA2 hp1 hs1 hn1 hB2 hB3 HN1 HC1 hB1
  -- left
  have hsl := fun w => run_slice_head wa cols.length wcap c hcl hm (by omega) (fun h => (HW0.out h).1) w
  have eL : (cols.take c).length = c := by rw [List.length_take]; omega
  have A1 := zzBigCols_any wa (cols.take c) wcap W2 (by omega) (fun c hc => ⟨HL.out c (List.mem_of_mem_take hc), HF.out c (List.mem_of_mem_take hc)⟩) (fun h => by rw [(HW0.out h).2, List.take_nil]) (HC2.out.head c)
  rw [eL] at A1
  have HA1 : Hid (Calls Try.prog 8 #[.slice wa c wcap] W2 fun e w' => (∃ a', e = .returned (.slice a' c c) ∧ BigCols w' a' (cols.take c)) ∧ Below W2.heap.size W2 w') := A1
  clear A1
  go_wp2_with fail
  refine HA1.out.mono ?_
  rintro e W3 ⟨⟨a2, rfl, hb1⟩, hB2⟩
  have A2 := zzAccounts_any nb names nd a2 (cols.take c) c W3 (by omega) (by omega) (fun c hc => HE.out c (List.mem_of_mem_take hc)) (fun c hc => HL.out c (List.mem_of_mem_take hc)) (HN2.out.below hB2) hb1
  rw [eL] at A2
  have HA2 : Hid (Calls Try.prog 7 #[.slice nb names.length nd, .slice a2 c c] W3 fun e w' => (∃ a k ds, e = .returned (.slice a (List.length ds) k) ∧ ds.Perm (picked (cols.take c) names.length) ∧ Srt names ds ∧ NumsAt w' a ds) ∧ Below W3.heap.size W3 w') := A2
  clear A2 hb1 HA1 eL
  go_wp2_with fail
  refine HA2.out.mono ?_
  rintro e W4 ⟨⟨x2, c2, d2, rfl, hp1, hs1, hn1⟩, hB3⟩
  have HD2 : Hid (d2.Perm (picked (cols.take c) names.length) ∧ Srt names d2) := ⟨hp1, hs1⟩
  have HM2 : Hid (NumsAt W4 x2 d2) := hn1
  have hB5 := hB2.trans (hB3.mono hB2.size)
  have HN3 : Hid (NamesAt W4 nb names) := HN2.out.below hB5
  have HC3 : Hid (ColsAt W4 wa cols) := HC2.out.below hB5
  have HM3 : Hid (NumsAt W4 x1 d1) := HM1.out.below hB5
  replace hB5 := hB4.trans (hB5.mono hB4.size)
  clear HA2 hp1 hs1 hn1 hB2 hB3 HN2 HC2 hB4 hsl HM1
  -- right
  have hsl := fun w => run_slice_tail wa cols.length wcap c hcl hm (by omega) (fun h => (HW0.out h).1) w
  have eL : (cols.drop c).length = cols.length - c := List.length_drop
  have hC4 := HC3.out.tail c wcap hm
  have ht0 : tailA wa wcap c = none → cols.drop c = [] := by
    intro h
    cases wa with
    | none => rw [(HW0.out rfl).2, List.drop_nil]
    | some x => unfold tailA at h; simp only at h; split at h <;> cases h
  have A1 := zzBigCols_any (tailA wa wcap c) (cols.drop c) (wcap - c) W4 (by omega) (fun c hc => ⟨HL.out c (List.mem_of_mem_drop hc), HF.out c (List.mem_of_mem_drop hc)⟩) ht0 hC4
  rw [eL] at A1
  have HA1 : Hid (Calls Try.prog 8 #[.slice (tailA wa wcap c) (cols.length - c) (wcap - c)] W4 fun e w' => (∃ a', e = .returned (.slice a' (cols.length - c) (cols.length - c)) ∧ BigCols w' a' (cols.drop c)) ∧ Below W4.heap.size W4 w') := A1
  clear A1 hC4 ht0
  generalize tailA wa wcap c = ta at *
  go_wp2_with fail
  refine HA1.out.mono ?_
  rintro e W5 ⟨⟨a3, rfl, hb1⟩, hB2⟩
  have A2 := zzAccounts_any nb names nd a3 (cols.drop c) (cols.length - c) W5 (by omega) (by omega) (fun c hc => HE.out c (List.mem_of_mem_drop hc)) (fun c hc => HL.out c (List.mem_of_mem_drop hc)) (HN3.out.below hB2) hb1
  rw [eL] at A2
  have HA2 : Hid (Calls Try.prog 7 #[.slice nb names.length nd, .slice a3 (cols.length - c) (cols.length - c)] W5 fun e w' => (∃ a k ds, e = .returned (.slice a (List.length ds) k) ∧ ds.Perm (picked (cols.drop c) names.length) ∧ Srt names ds ∧ NumsAt w' a ds) ∧ Below W5.heap.size W5 w') := A2
  clear A2 hb1 HA1 eL
  go_wp2_with fail
  refine HA2.out.mono ?_
  rintro e W6 ⟨⟨x3, c3, d3, rfl, hp1, hs1, hn1⟩, hB3⟩
  have HD3 : Hid (d3.Perm (picked (cols.drop c) names.length) ∧ Srt names d3) := ⟨hp1, hs1⟩
  have HM4 : Hid (NumsAt W6 x3 d3) := hn1
  have hB6 := hB2.trans (hB3.mono hB2.size)
  have HN4 : Hid (NamesAt W6 nb names) := HN3.out.below hB6
  have HC4 : Hid (ColsAt W6 wa cols) := HC3.out.below hB6
  have HM5 : Hid (NumsAt W6 x1 d1) := HM3.out.below hB6
  have HM6 : Hid (NumsAt W6 x2 d2) := HM2.out.below hB6
  replace hB6 := hB5.trans (hB6.mono hB5.size)
  clear HA2 hp1 hs1 hn1 hB2 hB3 HN3 HC3 hB5 hsl HM3 HM2
  -- counts
  have A1 := counts_picked x1 c1 names.length cols d1 W6 n1 HD1.out.1 HM5.out
  have HA1 : Hid (Calls Try.prog 9 #[.slice x1 d1.length c1, .int .i64 names.length] W6 fun e w' => (∃ b, e = .returned (.tuple #[.slice (some ⟨b, 0, none⟩) names.length names.length, .bool true]) ∧ CountsAt w' b names.length (wgh cols)) ∧ Below W6.heap.size W6 w') := A1
  clear A1
  go_wp2_with fail
  refine HA1.out.mono ?_
  rintro e W7 ⟨⟨b1, rfl, hk1⟩, hB7⟩
  have A1 := counts_picked x2 c2 names.length (cols.take c) d2 W7 n1 HD2.out.1 (HM6.out.below hB7)
  have HA2 : Hid (Calls Try.prog 9 #[.slice x2 d2.length c2, .int .i64 names.length] W7 fun e w' => (∃ b, e = .returned (.tuple #[.slice (some ⟨b, 0, none⟩) names.length names.length, .bool true]) ∧ CountsAt w' b names.length (wgh (cols.take c))) ∧ Below W7.heap.size W7 w') := A1
  have HK1 : Hid (CountsAt W7 b1 names.length (wgh cols)) := hk1
  clear A1 hk1 HA1
  go_wp2_with fail
  refine HA2.out.mono ?_
  rintro e W8 ⟨⟨b2, rfl, hk1⟩, hB8⟩
  have HK2 : Hid (CountsAt W8 b2 names.length (wgh (cols.take c))) := hk1
  have HK3 : Hid (CountsAt W8 b1 names.length (wgh cols)) := HK1.out.below hB8
  replace hB8 := hB7.trans (hB8.mono hB7.size)
  have A1 := counts_picked x3 c3 names.length (cols.drop c) d3 W8 n1 HD3.out.1 (HM4.out.below hB8)
  have HA1 : Hid (Calls Try.prog 9 #[.slice x3 d3.length c3, .int .i64 names.length] W8 fun e w' => (∃ b, e = .returned (.tuple #[.slice (some ⟨b, 0, none⟩) names.length names.length, .bool true]) ∧ CountsAt w' b names.length (wgh (cols.drop c))) ∧ Below W8.heap.size W8 w') := A1
  clear A1 hk1 HA2 HK1 hB7
  go_wp2_with fail
  refine HA1.out.mono ?_
  rintro e W9 ⟨⟨b3, rfl, hk1⟩, hB9⟩
  have HK4 : Hid (CountsAt W9 b3 names.length (wgh (cols.drop c))) := hk1
  have HK5 : Hid (CountsAt W9 b2 names.length (wgh (cols.take c))) := HK2.out.below hB9
  have HK6 : Hid (CountsAt W9 b1 names.length (wgh cols)) := HK3.out.below hB9
  replace hB9 := hB8.trans (hB9.mono hB8.size)
  have HN5 : Hid (NamesAt W9 nb names) := HN4.out.below hB9
  have HC5 : Hid (ColsAt W9 wa cols) := HC4.out.below hB9
  have HM7 : Hid (NumsAt W9 x1 d1) := HM5.out.below hB9
  have HM8 : Hid (NumsAt W9 x2 d2) := HM6.out.below hB9
  have HM9 : Hid (NumsAt W9 x3 d3) := HM4.out.below hB9
  replace hB9 := hB6.trans (hB9.mono hB6.size)
  clear hk1 HA1 HK2 HK3 hB8 HN4 HC4 HM5 HM6 HM4 hB6
  go_wp2_with fail
  clear hlt hge hj
  go_loop [22] (fun i => ∃ j : Nat, j ≤ names.length ∧ i = .int .i64 j) (fun i => names.length - (intOf i).toNat)
  case atStart => exact ⟨0, Nat.zero_le _, rfl⟩
  case round =>
  obtain ⟨j, hj, rfl⟩ := hrel
  by_cases hlt : j < names.length
  · have hj1 : (j : Int) < names.length := by omega
    have k1 := HK6.out j hlt
    have k2 := HK5.out j hlt
    have k3 := HK4.out j hlt
    have A1 := zzWeighs_any wa cols wcap j W9 n2 HL.out (fun c hc => by rw [HE.out c hc]; exact hlt) HC5.out
    rw [wgh_cut cols c j] at A1 k1
    have HA1 : Hid (Calls Try.prog 10 #[.slice wa cols.length wcap, .int .i64 j] W9 fun e w' => e = .returned (.bool (wgh (cols.take c) j || wgh (cols.drop c) j)) ∧ w' = W9) := A1
    clear A1
    generalize wgh (cols.take c) j = y1 at *
    generalize wgh (cols.drop c) j = y2 at *
    cases y1 <;> cases y2 <;> simp only [Bool.or_false, Bool.or_true, Bool.false_eq_true, if_true, if_false] at k1 k2 k3 HA1
    all_goals
      go_wp2_with fail
      refine HA1.out.mono ?_
      rintro e w2 ⟨rfl, rfl⟩
      go_wp2_with fail
      go_round
      case rel => exact ⟨j + 1, by omega, by go_num⟩
      case measure => simp [intOf]; omega
  have hge : (names.length : Int) ≤ j := by omega
  have hdl : ∀ (cs : List (List Int)) (ds : List Nat), ds.Perm (picked cs names.length) → ds.length ≤ 1048577 := fun cs ds h => by have := h.length_eq; have := picked_le cs names.length; omega
  have A1 := zzNameOrdered_any nb x1 names nd c1 d1 W9 (by omega) (hdl _ _ HD1.out.1) (picked_lt HD1.out.1) HD1.out.2 HN5.out HM7.out
  have HA1 : Hid (Calls Try.prog 12 #[.slice nb names.length nd, .slice x1 d1.length c1] W9 fun e w' => e = .returned (.bool true) ∧ Below W9.heap.size W9 w') := A1
  clear A1
  go_wp2_with fail
  refine HA1.out.mono ?_
  rintro e X1 ⟨rfl, hX1⟩
  have A1 := zzNameOrdered_any nb x2 names nd c2 d2 X1 (by omega) (hdl _ _ HD2.out.1) (picked_lt HD2.out.1) HD2.out.2 (HN5.out.below hX1) (HM8.out.below hX1)
  have HA2 : Hid (Calls Try.prog 12 #[.slice nb names.length nd, .slice x2 d2.length c2] X1 fun e w' => e = .returned (.bool true) ∧ Below X1.heap.size X1 w') := A1
  clear A1 HA1
  go_wp2_with fail
  refine HA2.out.mono ?_
  rintro e X2 ⟨rfl, hX2⟩
  replace hX2 := hX1.trans (hX2.mono hX1.size)
  have A1 := zzNameOrdered_any nb x3 names nd c3 d3 X2 (by omega) (hdl _ _ HD3.out.1) (picked_lt HD3.out.1) HD3.out.2 (HN5.out.below hX2) (HM9.out.below hX2)
  have HA1 : Hid (Calls Try.prog 12 #[.slice nb names.length nd, .slice x3 d3.length c3] X2 fun e w' => e = .returned (.bool true) ∧ Below X2.heap.size X2 w') := A1
  clear A1 HA2
  go_wp2_with fail
  refine HA1.out.mono ?_
  rintro e X3 ⟨rfl, hX3⟩
  replace hX3 := hX2.trans (hX3.mono hX2.size)
  go_wp2_with fail
  go_ret
  exact ⟨rfl, hB9.trans (hX3.mono hB9.size)⟩

end Go.Proofs.Qxb6615116a

/-
  weighs, the closure of accounts, accounts, ZZAccounts (seat b6615116a).
-/
import Derived.Test.Qxb6615116aCols
namespace Go.Proofs.Qxb6615116a
open Go.RowKit

/-- The Weights that ZZAccounts builds. -/
def wts (na : Value) (wa : Value) : Array Value := #[na, .slice none 0 0, wa, .int .i64 0, .int .i64 0, .bool false, .nilFunc]
theorem run_build39 (a b : Option Addr) (n c m d : Nat) (w : World) : (Instr.build 39 #[(0, .slice a n c), (2, .slice b m d)]).run Try.prog w = .ok (.agg (wts (.slice a n c) (.slice b m d))) w := by
  kernel_rfl

/-- Does account i weigh? -/
def wgh (cols : List (List Int)) (i : Nat) : Bool := cols.any fun c => decide (0 < c.getD i 0)

set_option maxRecDepth 100000 in
set_option maxHeartbeats 4000000 in
theorem weighs_any (a : Option Addr) (n cp : Nat) (wa : Option Addr) (cols : List (List Int)) (cap i : Nat) (w : World) (hn : cols.length ≤ 1048576) (hl : ∀ c ∈ cols, c.length ≤ 1048576) (hi : ∀ c ∈ cols, i < c.length) (hW : BigCols w wa cols) :
    Calls Try.prog 15 #[.agg (wts (.slice a n cp) (.slice wa cols.length cap)), .int .i64 i] w fun e w' => e = .returned (.bool (wgh cols i)) ∧ Below w.heap.size w w' := by
  have hn1 : (cols.length : Int) ≤ 1048576 := by omega
  have hB0 : Below w.heap.size w (w.alloc (.cells (wts (.slice a n cp) (.slice wa cols.length cap)) 39)) := (Below.refl _ _).alloc (Nat.le_refl _) _
  have k2 : (w.alloc (.cells (wts (.slice a n cp) (.slice wa cols.length cap)) 39)).cell? ⟨w.heap.size, 2, none⟩ = some (.slice wa cols.length cap) := by rw [World.cell?_alloc_new]; rfl
  have HW : Hid (BigCols w wa cols) := hW
  have HI : Hid (∀ c ∈ cols, i < c.length) := hi
  have HL : Hid (∀ c ∈ cols, c.length ≤ 1048576) := hl
  clear hW hi hl
  unfold wts at *
  go_enter Try.func15, Try.ntmps15
  go_wp2_with fail
  generalize w.alloc (.cells #[.slice a n cp, .slice none 0 0, .slice wa cols.length cap, .int .i64 0, .int .i64 0, .bool false, .nilFunc] 39) = W0 at *
  go_loop [9] (fun v => ∃ j : Nat, j ≤ cols.length ∧ v = .int .i64 j ∧ (cols.take j).any (fun c => decide (0 < c.getD i 0)) = false) (fun v => cols.length - (intOf v).toNat)
  case atStart => exact ⟨0, Nat.zero_le _, rfl, rfl⟩
  case round =>
    obtain ⟨j, hj, rfl, hno⟩ := hrel
    have HN : Hid ((cols.take j).any (fun c => decide (0 < c.getD i 0)) = false) := hno
    clear hno
    by_cases hlt : j < cols.length
    · have hj1 : (j : Int) < cols.length := by omega
      rcases HW.out.below hB0 with h0 | ⟨b, rfl, hr⟩
      · rw [h0] at hlt; cases hlt
      obtain ⟨rb, c1, hbr, _, _⟩ := hr j hlt hlt
      have hij : i < cols[j].length := HI.out _ (List.getElem_mem hlt)
      have hlj : cols[j].length ≤ 1048576 := HL.out _ (List.getElem_mem hlt)
      have hbg := hbr i hij hij
      have hval : cols[j][i] = cols[j].getD i 0 := by rw [List.getD_eq_getElem?_getD, List.getElem?_eq_getElem hij]; rfl
      rw [hval] at hbg
      have hsg := sign_any rb (i * 2) _ W0 hbg
      have HSG : Hid (Calls Try.prog 19 #[.pointer (some ⟨rb, i * 2, none⟩)] W0 fun e w' => (∃ s, e = .returned (.int .i64 s) ∧ decide (0 < s) = decide (0 < cols[j].getD i 0)) ∧ w' = W0) := hsg
      have hij1 : (i : Int) < cols[j].length := by omega
      have hlj1 : (cols[j].length : Int) ≤ 1048576 := by omega
      have ht : (cols.take (j + 1)).any (fun c => decide (0 < c.getD i 0)) = ((cols.take j).any (fun c => decide (0 < c.getD i 0)) || decide (0 < cols[j].getD i 0)) := by
        rw [List.take_succ_eq_append_getElem hlt, List.any_append, List.any_cons, List.any_nil, Bool.or_false]
      have HT : Hid ((cols.take (j + 1)).any (fun c => decide (0 < c.getD i 0)) = ((cols.take j).any (fun c => decide (0 < c.getD i 0)) || decide (0 < cols[j].getD i 0))) := ht
      clear ht
      have HG : Hid (decide (0 < cols[j].getD i 0) = true → wgh cols i = true) := fun h => List.any_eq_true.2 ⟨_, List.getElem_mem hlt, h⟩
      clear hsg hbg hbr hr hval
      generalize cols[j].length = m at *
      generalize decide (0 < cols[j].getD i 0) = r at *
      go_wp2_with fail
      refine HSG.out.mono ?_
      rintro e w1 ⟨⟨s, rfl, hs⟩, rfl⟩
      cases r
      · go_wp2_with fail
        go_round
        case rel => exact ⟨j + 1, by omega, by go_num, by rw [HT.out, HN.out]; rfl⟩
        case measure => simp [intOf]; omega
      · go_wp2_with fail
        go_ret
        exact ⟨by rw [HG.out (by first | rfl | trivial)]; rfl, hB0⟩
    · have hge : (cols.length : Int) ≤ j := by omega
      have HF : Hid (wgh cols i = false) := by
        have := HN.out
        rwa [List.take_of_length_le (by omega)] at this
      go_wp2_with fail
      go_ret
      exact ⟨by rw [HF.out]; rfl, hB0⟩

end Go.Proofs.Qxb6615116a

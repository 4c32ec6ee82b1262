/-
  The walk of FnAccountsOneAccountPutInAnywhere (seat b6615116a).
-/
import Derived.Test.Qxb6615116aRest
import Derived.Test.Qxb6615116aT4
import Derived.Deep.CutBlock
namespace Go.Proofs.Qxb6615116a
open Go.RowKit
set_option linter.unusedVariables false
attribute [local go_sem] run_neq22

set_option maxRecDepth 100000 in
set_option maxHeartbeats 32000000 in
theorem law3 (na : Option Addr) (names : List ByteArray) (nc : Nat) (wa : Option Addr) (cols : List (List Int)) (wcap : Nat) (p : Int) (nmv : ByteArray) (aa : Option Addr) (add : List Int) (ac : Nat) (w : World) (hn : names.length ≤ maxLen) (hm : cols.length ≤ wcap) (hcap : wcap ≤ maxLen) (hs : ∀ s ∈ names, s.size ≤ maxLen) (hl : ∀ c ∈ cols, c.length ≤ maxLen ∧ Fit c)
    (hnm : nmv.size ≤ maxLen) (han : add.length ≤ maxLen) (hfa : Fit add) (hN : NamesAt w na names) (hC : ColsAt w wa cols) (hA : Ints w aa add) (hw0 : wa = none → wcap = 0 ∧ cols = []) :
    Calls Try.prog 3 #[.slice na names.length nc, .slice wa cols.length wcap, .int .i64 p, .string nmv, .slice aa add.length ac] w fun e w' => e = .returned (.bool true) ∧ Below w.heap.size w w' := by
  have hzb := zzBytes3_any na names nc wa cols wcap p nmv aa add.length ac w hnm han hn (Nat.le_trans hm hcap) hs (fun c hc => (hl c hc).1) hN hC
  unfold maxLen at *
  have HZB : Hid (Calls Try.prog 5 #[.slice na names.length nc, .slice wa cols.length wcap, .int .i64 p, .string nmv, .slice aa add.length ac] w fun e w' => Small names cols e ∧ w' = w) := hzb
  have HN : Hid (NamesAt w na names) := hN
  have HC : Hid (ColsAt w wa cols) := hC
  have HA : Hid (Ints w aa add) := hA
  have HF : Hid (∀ c ∈ cols, Fit c) := fun c hc => (hl c hc).2
  have HFA : Hid (Fit add) := hfa
  have HW0 : Hid (wa = none → wcap = 0 ∧ cols = []) := hw0
  clear hN hC hs hl hzb hw0 hA hfa
  go_enter Try.func3, Try.ntmps3
  change (rest 0).wp Try.prog _ _ _
  refine rest_go (by kernel_rfl) fun K0 hK0 => ?_
  conv => arg 2; whnf
  go_wp2_with fail
  refine rest_go (by kernel_rfl) fun K1 hK1 => ?_
  conv => arg 2; whnf
  go_wp2_with fail
  refine HZB.out.mono ?_
  rintro e w' ⟨⟨x, rfl, hx⟩, rfl⟩
  have hB0 := Below.refl w'.heap.size w'
  cases x
  · go_wp2_with fail
    go_ret
    exact ⟨rfl, hB0⟩
  have HS : Hid (∀ s ∈ names, s.size ≤ 1048576) := (hx rfl).1
  have HL : Hid (∀ c ∈ cols, c.length ≤ 1048576) := (hx rfl).2
  clear hx HZB
  go_wp2_with fail
  refine rest_go (by kernel_rfl) fun K2 hK2 => ?_
  conv => arg 2; whnf
  by_cases l1 : 4096 < (names.length : Int)
  · go_wp2_with fail
    go_ret
    exact ⟨rfl, hB0⟩
  by_cases l2 : 65536 < (cols.length : Int)
  · go_wp2_with fail
    go_ret
    exact ⟨rfl, hB0⟩
  by_cases l3 : 1048576 < (nmv.size : Int)
  · go_wp2_with fail
    go_ret
    exact ⟨rfl, hB0⟩
  by_cases l4 : 65536 < (add.length : Int)
  · go_wp2_with fail
    go_ret
    exact ⟨rfl, hB0⟩
  go_wp2_with fail
  refine rest_go (by kernel_rfl) fun K3 hK3 => ?_
  conv => arg 2; whnf
  go_upto_if 62 with fail
  go_cut [0] from 36 (fun n wr => ∃ a c, n = .slice a names.length c ∧ NamesAt wr a names ∧ Below w'.heap.size w' wr)
  case first =>
    cases na with
    | none =>
      go_wp2_with fail
      go_meet
      case rel => exact ⟨_, _, rfl, HN.out, hB0⟩
    | some x =>
      have hmk := fun w => run_make22 names.length (by omega) w
      obtain ⟨W2, hcp, hcB, hcN⟩ := run_copy22 3 x names nc w' HN.out
      go_wp2_with (refine Lib.wpList_copy_run _ rfl _ _ 22 22 rfl _ _ rfl rfl hcp ?_)
      go_meet
      case rel => exact ⟨_, _, rfl, hcN, hcB⟩
  case rest =>
  obtain ⟨nb, nd, rfl, hN1, hB1⟩ := hcut
  have T := @t4 w' wc hB1 nb names nd p nmv aa add ac wa cols wcap (by omega) (by omega) (by omega) (by omega) HS.out HL.out HF.out HFA.out (fun h => (HW0.out h).2) hN1 (HC.out.below hB1) (HA.out.below hB1)
  exact hK3 _ _ T

end Go.Proofs.Qxb6615116a

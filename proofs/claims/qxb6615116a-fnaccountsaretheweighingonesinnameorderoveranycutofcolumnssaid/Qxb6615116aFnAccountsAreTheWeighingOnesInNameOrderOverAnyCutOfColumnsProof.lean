/-
  The proof of 'Rows.FnAccountsAreTheWeighingOnesInNameOrderOverAnyCutOfColumnsSaid' (seat b6615116a): the row's frame over the walk (LawF4).
-/
import Derived.Test.Qxb6615116aOpen
import Derived.Test.Qxb6615116aLawF4
namespace Go.Proofs.Qxb6615116a.fnAccountsAreTheWeighingOnesInNameOrderOverAnyCutOfColumns
open Go.ChangeShapes Go.WideShapes Go.ChangeAt Go.RowKit

set_option maxRecDepth 100000 in
theorem lifted (os : Os) (started : os.Started) (H : Type) (enc : TypeId × Value → H) :
    ReturnsInHanded {} Try.checked os 4 .any (Rows.fnAccountsAreTheWeighingOnesInNameOrderOverAnyCutOfColumnsSpec.pre6 enc Try.prog Try.f4 Rows.fnAccountsAreTheWeighingOnesInNameOrderOverAnyCutOfColumnsRow.domain false) (Rows.fnAccountsAreTheWeighingOnesInNameOrderOverAnyCutOfColumnsSpec.post enc Try.prog Try.f4 false true false false) := by
  refine returnsInHanded_of_change (C := Try.checked) own started (by kernel_rfl) Try.func4
    (ChangeSpec.witness6 (enc := enc) (C := Try.checked) false ⟨#[], #[.slice none 0 0, .slice none 0 0, .int .i64 0], []⟩ 4 (by kernel_rfl) (by kernel_rfl) (by kernel_rfl) (by kernel_rfl)) ?_
  intro W base args ds gs before hval0 hW hcnd _
  have hval : ∀ (j : Nat) t v, Try.f4.params[j]? = some t → args[j]? = some v → Value.okWide Try.prog W .any base t v := hval0
  have hW' := hW
  obtain ⟨p, q, hA0, hV, rfl, hfz, hnd⟩ := hW
  have hA : DataW.TrodAll enc Try.prog W 0 (fun _ => true) true Try.f4.params.toList args.toList ds p := hA0
  rw [Try.params4] at hA hval
  obtain ⟨v0, vs0, d0, ds0, p0, q0, hargs, rfl, rfl, h0, r0⟩ := trodAll_cons hA
  obtain ⟨v1, vs1, d1, ds1, p1, q1, rfl, rfl, rfl, h1, r1⟩ := trodAll_cons r0
  obtain ⟨v2, vs2, d2, ds2, p2, q2, rfl, rfl, rfl, h2, r2⟩ := trodAll_cons r1
  obtain ⟨rfl, rfl, rfl⟩ := trodAll_nil r2
  obtain rfl : args = #[v0, v1, v2] := by cases args; simp_all
  obtain ⟨rfl, rfl⟩ := trodVars_none hV
  have lt0 : ∀ x ∈ p0, x.block < W.heap.size := by obtain ⟨m, hm⟩ := h0; exact DataW.trod_lt m _ _ _ hm
  have lt1 : ∀ x ∈ p1, x.block < W.heap.size := by obtain ⟨m, hm⟩ := h1; exact DataW.trod_lt m _ _ _ hm
  obtain ⟨na, ns, nc, rfl, l0, c0, s0, e0⟩ := open_names (hval 0 22 v0 rfl rfl) h0
  obtain ⟨wa, cols, wc, rfl, l1, m1, c1, s1, e1⟩ := open_cols (hval 1 23 v1 rfl rfl) h1
  obtain ⟨cut, rfl, rfl, rfl, wcut⟩ := open_int Try.underlying3 (hval 2 3 v2 rfl rfl) h2
  clear hA0 hval0
  refine (law4 na ns nc wa cols wc cut W l0 l1 m1 s0 s1 c0 c1 e1).mono fun e W' ⟨he, bel⟩ => ?_
  subst he
  exact ⟨_, rfl, _, _, _, [], _, [], hW', trodAll_mk1 (shut_bool Try.underlying4 _),
    (trodAll_cons_mk (Below.trod laidOut (by kernel_rfl) (of_decide_eq_true (by kernel_rfl)) h0 bel lt0)
    (trodAll_cons_mk (Below.trod laidOut (by kernel_rfl) (of_decide_eq_true (by kernel_rfl)) h1 bel lt1)
    (trodAll_cons_mk (shut_int Try.underlying3 wcut) trodAll_mk0))), rfl, bel.frame _, fun h => by cases h⟩

theorem over : Rows.fnAccountsAreTheWeighingOnesInNameOrderOverAnyCutOfColumnsRow.holds Try.pinned (OpenSpec.ofChange Rows.fnAccountsAreTheWeighingOnesInNameOrderOverAnyCutOfColumnsSpec) :=
  OpenClaim.holds_of_wide 4 Try.f4 rfl rfl rfl rfl rfl rfl rfl ⟨rfl, rfl, rfl, rfl, rfl⟩ rfl rfl rfl rfl rfl (by kernel_rfl) Try.func4 (by kernel_rfl)
    (of_decide_eq_true (by kernel_rfl)) (by unfold Func.isWrapper; first | (rw [if_pos (by decide +kernel)]; kernel_rfl) | (rw [if_neg (by decide +kernel)]; exact ⟨rfl, rfl⟩))
    (fun os started H enc _ => lifted os started H enc)

/-- ████ THE STATEMENT ████ -/
theorem proved : Rows.FnAccountsAreTheWeighingOnesInNameOrderOverAnyCutOfColumnsSaid := over
end Go.Proofs.Qxb6615116a.fnAccountsAreTheWeighingOnesInNameOrderOverAnyCutOfColumns

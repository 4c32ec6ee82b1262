/-
  The proof of 'Rows.FnAccountsOneAccountPutInAnywhereSaid' (seat b6615116a): the row's frame over the walk (LawF3).
-/
import Derived.Test.Qxb6615116aOpen
import Derived.Test.Qxb6615116aLawF3
import Derived.ChangeMaps5
namespace Go.Proofs.Qxb6615116a.fnAccountsOneAccountPutInAnywhere
open Go.ChangeShapes Go.WideShapes Go.ChangeAt Go.RowKit

set_option maxRecDepth 100000 in
theorem lifted (os : Os) (started : os.Started) (H : Type) (enc : TypeId × Value → H) :
    ReturnsInHanded {} Try.checked os 3 .any (Rows.fnAccountsOneAccountPutInAnywhereSpec.pre6 enc Try.prog Try.f3 Rows.fnAccountsOneAccountPutInAnywhereRow.domain false) (Rows.fnAccountsOneAccountPutInAnywhereSpec.post enc Try.prog Try.f3 false true false false) := by
  refine returnsInHanded_of_change (C := Try.checked) own started (by kernel_rfl) Try.func3
    (ChangeSpec.witness6 (enc := enc) (C := Try.checked) false ⟨#[], #[.slice none 0 0, .slice none 0 0, .int .i64 0, .string ⟨#[]⟩, .slice none 0 0], []⟩ 3 (by kernel_rfl) (by kernel_rfl) (by kernel_rfl) (by kernel_rfl)) ?_
  intro W base args ds gs before hval0 hW hcnd _
  have hval : ∀ (j : Nat) t v, Try.f3.params[j]? = some t → args[j]? = some v → Value.okWide Try.prog W .any base t v := hval0
  have hW' := hW
  obtain ⟨p, q, hA0, hV, rfl, hfz, hnd⟩ := hW
  have hA : DataW.TrodAll enc Try.prog W 0 (fun _ => true) true Try.f3.params.toList args.toList ds p := hA0
  rw [Try.params3] at hA hval
  obtain ⟨v0, vs0, d0, ds0, p0, q0, hargs, rfl, rfl, h0, r0⟩ := trodAll_cons hA
  obtain ⟨v1, vs1, d1, ds1, p1, q1, rfl, rfl, rfl, h1, r1⟩ := trodAll_cons r0
  obtain ⟨v2, vs2, d2, ds2, p2, q2, rfl, rfl, rfl, h2, r2⟩ := trodAll_cons r1
  obtain ⟨v3, vs3, d3, ds3, p3, q3, rfl, rfl, rfl, h3, r3⟩ := trodAll_cons r2
  obtain ⟨v4, vs4, d4, ds4, p4, q4, rfl, rfl, rfl, h4, r4⟩ := trodAll_cons r3
  obtain ⟨rfl, rfl, rfl⟩ := trodAll_nil r4
  obtain rfl : args = #[v0, v1, v2, v3, v4] := by cases args; simp_all
  obtain ⟨rfl, rfl⟩ := trodVars_none hV
  have lt0 : ∀ x ∈ p0, x.block < W.heap.size := by obtain ⟨m, hm⟩ := h0; exact DataW.trod_lt m _ _ _ hm
  have lt1 : ∀ x ∈ p1, x.block < W.heap.size := by obtain ⟨m, hm⟩ := h1; exact DataW.trod_lt m _ _ _ hm
  have lt4 : ∀ x ∈ p4, x.block < W.heap.size := by obtain ⟨m, hm⟩ := h4; exact DataW.trod_lt m _ _ _ hm
  obtain ⟨na, ns, nc, rfl, l0, c0, s0, e0⟩ := open_names (hval 0 22 v0 rfl rfl) h0
  obtain ⟨wa, cols, wc, rfl, l1, m1, c1, s1, e1⟩ := open_cols (hval 1 23 v1 rfl rfl) h1
  obtain ⟨cut, rfl, rfl, rfl, wcut⟩ := open_int Try.underlying3 (hval 2 3 v2 rfl rfl) h2
  obtain ⟨nmv, rfl, rfl, rfl, snm⟩ := Go.ChangeMaps.open_string Try.underlying9 (hval 3 9 v3 rfl rfl) h3
  obtain ⟨aa, add, ac, rfl, l4, c4, f4⟩ := open_adds (hval 4 24 v4 rfl rfl) h4
  clear hA0 hval0
  refine (law3 na ns nc wa cols wc cut nmv aa add ac W l0 l1 m1 s0 s1 snm l4 f4 c0 c1 c4 e1).mono fun e W' ⟨he, bel⟩ => ?_
  subst he
  exact ⟨_, rfl, _, _, _, [], _, [], hW', trodAll_mk1 (shut_bool Try.underlying4 _),
    (trodAll_cons_mk (Below.trod laidOut (by kernel_rfl) (of_decide_eq_true (by kernel_rfl)) h0 bel lt0)
    (trodAll_cons_mk (Below.trod laidOut (by kernel_rfl) (of_decide_eq_true (by kernel_rfl)) h1 bel lt1)
    (trodAll_cons_mk (shut_int Try.underlying3 wcut)
    (trodAll_cons_mk (Go.ChangeMaps.shut_string Try.underlying9 snm)
    (trodAll_cons_mk (Below.trod laidOut (by kernel_rfl) (of_decide_eq_true (by kernel_rfl)) h4 bel lt4) trodAll_mk0))))), rfl, bel.frame _, fun h => by cases h⟩

theorem over : Rows.fnAccountsOneAccountPutInAnywhereRow.holds Try.pinned (OpenSpec.ofChange Rows.fnAccountsOneAccountPutInAnywhereSpec) :=
  OpenClaim.holds_of_wide 3 Try.f3 rfl rfl rfl rfl rfl rfl rfl ⟨rfl, rfl, rfl, rfl, rfl⟩ rfl rfl rfl rfl rfl (by kernel_rfl) Try.func3 (by kernel_rfl)
    (of_decide_eq_true (by kernel_rfl)) (by unfold Func.isWrapper; first | (rw [if_pos (by decide +kernel)]; kernel_rfl) | (rw [if_neg (by decide +kernel)]; exact ⟨rfl, rfl⟩))
    (fun os started H enc _ => lifted os started H enc)

/-- ████ THE STATEMENT ████ -/
theorem proved : Rows.FnAccountsOneAccountPutInAnywhereSaid := over
end Go.Proofs.Qxb6615116a.fnAccountsOneAccountPutInAnywhere

/-
  The proof of 'Rows.FnNearEdgesIgnoresWhereTheRingStartsSaid' (seat b6614725a): the row's frame over the walk (LawB) and the plain law (PlainB).
-/
import Derived.Test.Qxb6614725aOpen
import Derived.Test.Qxb6614725aLawB
namespace Go.Proofs.Qxb6614725a.fnNearEdgesIgnoresWhereTheRingStarts
open Go.ChangeShapes Go.WideShapes Go.ChangeAt Go.RowKit Go.Flt

set_option maxRecDepth 100000 in
theorem lifted (os : Os) (started : os.Started) (H : Type) (enc : TypeId × Value → H) :
    ReturnsInHanded {} Try.checked os 8 .any (Rows.fnNearEdgesIgnoresWhereTheRingStartsSpec.pre6 enc Try.prog Try.f8 Rows.fnNearEdgesIgnoresWhereTheRingStartsRow.domain false) (Rows.fnNearEdgesIgnoresWhereTheRingStartsSpec.post enc Try.prog Try.f8 false true false false) := by
  refine returnsInHanded_of_change (C := Try.checked) own started (by kernel_rfl) Try.func8
    (ChangeSpec.witness6 (enc := enc) (C := Try.checked) false ⟨#[], #[.slice none 0 0, .slice none 0 0, .agg #[.float .f64 0, .float .f64 0, .float .f64 0], .slice none 0 0, .int .i64 0], []⟩ 8 (by kernel_rfl) (by kernel_rfl) (by kernel_rfl) (by kernel_rfl)) ?_
  intro W base args ds gs before hval0 hW hcnd _
  have hval : ∀ (j : Nat) t v, Try.f8.params[j]? = some t → args[j]? = some v → Value.okWide Try.prog W .any base t v := hval0
  have hW' := hW
  obtain ⟨p, q, hA0, hV, rfl, hfz, hnd⟩ := hW
  have hA : DataW.TrodAll enc Try.prog W 0 (fun _ => true) true Try.f8.params.toList args.toList ds p := hA0
  rw [Try.params8] at hA hval
  obtain ⟨v0, vs0, d0, ds0, p0, q0, hargs, rfl, rfl, h0, r0⟩ := trodAll_cons hA
  obtain ⟨v1, vs1, d1, ds1, p1, q1, rfl, rfl, rfl, h1, r1⟩ := trodAll_cons r0
  obtain ⟨v2, vs2, d2, ds2, p2, q2, rfl, rfl, rfl, h2, r2⟩ := trodAll_cons r1
  obtain ⟨v3, vs3, d3, ds3, p3, q3, rfl, rfl, rfl, h3, r3⟩ := trodAll_cons r2
  obtain ⟨v4, vs4, d4, ds4, p4, q4, rfl, rfl, rfl, h4, r4⟩ := trodAll_cons r3
  obtain ⟨rfl, rfl, rfl⟩ := trodAll_nil r4
  obtain rfl : args = #[v0, v1, v2, v3, v4] := by cases args; simp_all
  obtain ⟨rfl, rfl⟩ := trodVars_none hV
  have lt0 : ∀ x ∈ p0, x.block < W.heap.size := by obtain ⟨m, hm⟩ := h0; exact DataW.trod_lt m _ _ _ hm
  have lt1 : ∀ x ∈ p1, x.block < W.heap.size := by obtain ⟨m, hm⟩ := h1; exact DataW.trod_lt m _ _ _ hm
  have lt2 : ∀ x ∈ p2, x.block < W.heap.size := by obtain ⟨m, hm⟩ := h2; exact DataW.trod_lt m _ _ _ hm
  have lt3 : ∀ x ∈ p3, x.block < W.heap.size := by obtain ⟨m, hm⟩ := h3; exact DataW.trod_lt m _ _ _ hm
  obtain ⟨va, vs, vc, rfl, l0, c0⟩ := open_vecs (hval 0 41 v0 rfl rfl) h0
  obtain ⟨na, ns, nc, rfl, l1, c1⟩ := open_vecs (hval 1 41 v1 rfl rfl) h1
  obtain ⟨pt, rfl⟩ := open_vec (hval 2 31 v2 rfl rfl) h2
  obtain ⟨ea, zs, ec, rfl, l3, c3, b3, e3⟩ := open_i32s (hval 3 42 v3 rfl rfl) h3
  obtain ⟨cut, rfl, rfl, rfl, wc⟩ := open_int Try.underlying3 (hval 4 3 v4 rfl rfl) h4
  have hcut : IntKind.i64.min ≤ cut ∧ cut ≤ IntKind.i64.max := by simpa [Lit.wf] using wc
  have e1 : IntKind.i64.min = -9223372036854775808 := by decide +kernel
  have e2 : IntKind.i64.max = 9223372036854775807 := by decide +kernel
  clear hA0 hval0
  refine (law8 va na ea vs ns vc nc pt zs ec cut W c0 c1 c3 l0 l1 l3 b3 (by omega) (by omega) e3 (fun k => plainK vs ns pt k)).mono fun e W' ⟨he, bel⟩ => ?_
  subst he
  exact ⟨_, rfl, _, _, _, [], _, [], hW', trodAll_mk1 (shut_bool Try.underlying4 _),
    (trodAll_cons_mk (Below.trod laidOut (by kernel_rfl) (of_decide_eq_true (by kernel_rfl)) h0 bel lt0)
    (trodAll_cons_mk (Below.trod laidOut (by kernel_rfl) (of_decide_eq_true (by kernel_rfl)) h1 bel lt1)
    (trodAll_cons_mk (Below.trod laidOut (by kernel_rfl) (of_decide_eq_true (by kernel_rfl)) h2 bel lt2)
    (trodAll_cons_mk (Below.trod laidOut (by kernel_rfl) (of_decide_eq_true (by kernel_rfl)) h3 bel lt3)
    (trodAll_cons_mk (shut_int Try.underlying3 wc) trodAll_mk0))))), rfl, bel.frame _, fun h => by cases h⟩

theorem over : Rows.fnNearEdgesIgnoresWhereTheRingStartsRow.holds Try.pinned (OpenSpec.ofChange Rows.fnNearEdgesIgnoresWhereTheRingStartsSpec) :=
  OpenClaim.holds_of_wide 8 Try.f8 rfl rfl rfl rfl rfl rfl rfl ⟨rfl, rfl, rfl, rfl, rfl⟩ rfl rfl rfl rfl rfl (by kernel_rfl) Try.func8 (by kernel_rfl)
    (of_decide_eq_true (by kernel_rfl)) (by unfold Func.isWrapper; first | (rw [if_pos (by decide +kernel)]; kernel_rfl) | (rw [if_neg (by decide +kernel)]; exact ⟨rfl, rfl⟩))
    (fun os started H enc _ => lifted os started H enc)

/-- ████ THE STATEMENT ████ -/
theorem proved : Rows.FnNearEdgesIgnoresWhereTheRingStartsSaid := over
end Go.Proofs.Qxb6614725a.fnNearEdgesIgnoresWhereTheRingStarts

/-
  The plain law at the lists of FnAccountsOneAccountPutInAnywhere; two steps of Go (seat b6615116a).
-/
import Derived.Test.Qxb6615116aCount
import Derived.Test.Qxb6615116aPut
namespace Go.Proofs.Qxb6615116a
open Go.RowKit
set_option linter.unusedVariables false

theorem nm_get (names : List ByteArray) {i : Nat} (h : i < names.length) : nm names i = names[i] := by
  unfold nm; rw [List.getD_eq_getElem?_getD, List.getElem?_eq_getElem h]; rfl

theorem srt_pairwise {names : List ByteArray} {ds : List Nat} (h : Srt names ds) : ds.Pairwise fun a b => ¬ (nm names b).toList < (nm names a).toList :=
  List.pairwise_iff_getElem.2 fun i j hi hj hij => by
    have := h i j hj hij
    unfold ltN at this
    rw [less_lt, decide_eq_false_iff_not] at this
    exact this

/-- The plain law, at the program's own lists. -/
theorem put_said {names : List ByteArray} {cols : List (List Int)} {add : List Int} {q : Nat} {nmv : ByteArray} {ds es : List Nat} (hH : Held names cols q nmv add.length) (hq : q ≤ names.length) (hds : ds.Perm (picked cols names.length)) (hs1 : Srt names ds)
    (hes : es.Perm (picked (putCols q cols add) (names.length + 1))) (hs2 : Srt (ins q nmv names) es) : es = wantL (fun x => decide (nmv.toList < (nm names x).toList)) q (!(add.any fun a => decide (0 < a))) ds := by
  have hc : ∀ c ∈ cols, q ≤ c.length := fun c hc => by rw [hH.lens c hc]; exact hq
  have hg := wgh_at q cols add hH.adds hc
  rw [← hg]
  refine put_law (fun x => (nm names x).toList) (fun x => (nm (ins q nmv names) x).toList) nmv.toList (wgh cols) (wgh (putCols q cols add)) names.length q hq (fun x _ => wgh_put q x cols add hH.adds hc) (fun x _ => ?_) ?_ (fun a ha b hb e => ?_) (fun a ha => ?_) ds es hds hes (srt_pairwise hs1) (srt_pairwise hs2)
  · show (nm _ _).toList = (nm _ _).toList
    unfold nm
    rw [List.getD_eq_getElem?_getD, ins_sh nmv hq, List.getD_eq_getElem?_getD]
  · show (nm _ _).toList = _
    unfold nm
    rw [List.getD_eq_getElem?_getD, ins_at nmv hq]; rfl
  · simp only [nm_get names ha, nm_get names hb] at e
    rcases Nat.lt_trichotomy a b with h | h | h
    · exact absurd e (hH.apart a b hb h)
    · exact h
    · exact absurd e.symm (hH.apart b a ha h)
  · show (nm _ _).toList ≠ _
    rw [nm_get names ha]
    exact hH.new a ha

/-- a > b, as the walk writes it. -/
theorem gt_form (a b : ByteArray) : (!(Op.bytesLess a.toList b.toList) && !(a.toList == b.toList)) = decide (b.toList < a.toList) := by
  rw [less_lt]
  by_cases h1 : b.toList < a.toList
  · have h2 : ¬ a.toList < b.toList := List.lt_asymm h1
    have h3 : ¬ a.toList = b.toList := fun e => by rw [e] at h1; exact List.lt_irrefl _ h1
    simp [h1, h2, h3]
  · rcases List.le_iff_lt_or_eq.1 (List.not_lt.1 h1) with h | h
    · simp [h, h1]
    · simp [h]

theorem run_make26w (n : Nat) (hn : n ≤ 1048577) (w : World) : (Instr.makeSlice 26 (.int .i64 0) (.int .i64 n)).run Try.prog w = .ok (.slice (some ⟨w.heap.size, 0, none⟩) 0 n) (w.alloc (.cells (madeCells #[.int .i64 0] n) 3)) := by
  obtain ⟨i, hi, h⟩ := Option.map_eq_some_iff.1 facts3
  simp only [Prod.mk.injEq] at h
  obtain ⟨h1, h2, h3⟩ := h
  have := run_make (P := Try.prog) w 26 3 i (.int .i64 0) Try.underlying26 hi h1 .i64 .i64 0 n (by omega) (by omega) (by rw [h3]; omega) (by omega)
  rw [h2] at this
  simpa [Value.cells] using this

end Go.Proofs.Qxb6615116a

/-
  THE SHELL OF A PROOF OF 'Rows.FnCachedKeptThroughAddedLookupsSaid' ('example.com/ringwright/ringwright/zzlaws_internal_sim_b1.FnCachedKeptThroughAddedLookups'), WRITTEN BY PROGRAM (proof-skeleton.mjs, third state) off the guide's own print for that function.
  The walk's hole is filled; all else is the template at this function's number and types.
-/
import Derived.Test.Qxb6615502aRows
import Derived.Test.Qxb6615502aWalkC
import Derived.WalkKit
import Derived.ProofKit
import Derived.OpenShut
import Derived.ShutString
import Derived.ChangeOld
import Derived.Below
namespace Go.Proofs.Qxb6615502a.fnCachedKeptThroughAddedLookups
open Go.ChangeShapes Go.WideShapes Go.ChangeAt Go.RowKit
open Go.ChangeMaps (open_string shut_string)
set_option linter.unusedVariables false

theorem own : ownKnob Try.prog.godebug = none := by kernel_rfl
theorem laidOut : laidOutB Try.prog = true := by kernel_rfl

/-- WHAT THE WALK IS TOLD OF A SLICE OF INTEGERS THAT CAME IN: it is nil; or it leads to a row of 'cap' cells, the numbers 'zs' (the first 'len' are its elements, the rest its spare room), each fitting its kind. -/
def IsRow (k : IntKind) (w : World) (a : Option Addr) (len cap : Nat) (zs : List Int) : Prop :=
  (a = none ∧ len = 0 ∧ cap = 0 ∧ zs = []) ∨
  ∃ x, a = some x ∧ len ≤ cap ∧ cap ≤ maxLen ∧ zs.length = cap ∧ (∀ i, i < zs.length → w.cell? (x.add i) = some (.int k (zs.getD i 0))) ∧ ∀ n ∈ zs, (Lit.int k n).wf = true

open Cached

theorem cs0_u (c : Bool) (i : Nat) (h0 : i = 1 ∨ 4 ≤ i) (h1 : i < 24) : (cs0 c)[i]? = some (.int .u64 0) := by
  rcases h0 with rfl | h0
  · cases c <;> kernel_rfl
  · unfold cs0
    rw [Array.getElem?_append_right (by simpa using h0), Array.getElem?_append_left (by simp; omega), Array.getElem?_replicate]
    exact if_pos (by simp; omega)

/-- The Stats as they lie at the loop's start. -/
theorem start (w1 : World) (c : Bool) : Inv w1.heap.size ((w1.alloc (.cells (cs0 false) 52)).setCells w1.heap.size 0 (cs0 c).toList) ∧ ((w1.alloc (.cells (cs0 false) 52)).setCells w1.heap.size 0 (cs0 c).toList).rangeAt w1.heap.size 0 (cs0 c).toList := by
  have ht : (w1.alloc (.cells (cs0 false) 52)).there w1.heap.size 0 56 := there_new w1 _ 52 56 (by rw [cs0_size]; omega)
  have hr := range_stored _ _ (cs0 c) 56 (cs0_size c) ht
  have hth := World.there_setCells ht w1.heap.size 0 (cs0 c).toList
  refine ⟨⟨fun i h0 h1 => ?_, ?_, fun i h => ?_⟩, hr⟩
  · refine ⟨0, ?_⟩
    have := hr i (.int .u64 0) (by rw [Array.getElem?_toList]; exact cs0_u c i h0 h1)
    simpa using this
  · refine ⟨0, ?_⟩
    have := hr 3 (.int .i64 0) (by cases c <;> kernel_rfl)
    simpa using this
  · have := (hth i (by omega)).2
    simpa using this

/-- The Stats as they lie behind the loop. -/
theorem finish (b : Nat) (c : Bool) (W wr : World) (hr : W.rangeAt b 0 (cs0 c).toList) (hs : St b W wr) :
    ∃ C : Array Value, C.size = 56 ∧ C.all (·.oneCell') = true ∧ (mk56 C)[44]? = some (.bool c) ∧ wr.rangeAt b 0 C.toList := by
  have hone : ∀ i, i < 56 → ∃ v, wr.cell? ⟨b, i, none⟩ = some v ∧ v.oneCell' = true := by
    intro i hi
    by_cases h1 : (i = 1 ∨ 4 ≤ i) ∧ i < 24
    · obtain ⟨x, hx⟩ := hs.inv.u i h1.1 h1.2
      exact ⟨_, hx, rfl⟩
    · by_cases h3 : i = 3
      · subst h3
        obtain ⟨x, hx⟩ := hs.inv.m
        exact ⟨_, hx, rfl⟩
      · rw [hs.far i (by omega)]
        have hlt : i < (cs0 c).toList.length := by rw [Array.length_toList, cs0_size]; exact hi
        refine ⟨(cs0 c).toList[i], ?_, ?_⟩
        · have := hr i (cs0 c).toList[i] (List.getElem?_eq_getElem hlt)
          simpa using this
        · exact (Array.all_eq_true_iff_forall_mem.1 (cs0_one c)) _ (by rw [Array.mem_def]; exact List.getElem_mem hlt)
  refine ⟨Array.ofFn (fun i : Fin 56 => (wr.cell? ⟨b, i, none⟩).getD undef), by simp, ?_, ?_, ?_⟩
  · rw [Array.all_eq_true_iff_forall_mem]
    intro v hv
    rw [Array.mem_ofFn] at hv
    obtain ⟨i, rfl⟩ := hv
    obtain ⟨v, h1, h2⟩ := hone i i.2
    rw [h1]
    exact h2
  · have h43 : wr.cell? ⟨b, 43, none⟩ = some (.bool c) := by
      rw [hs.far 43 (by omega)]
      have := hr 43 (.bool c) (by cases c <;> kernel_rfl)
      simpa using this
    unfold mk56
    rw [Array.getElem?_append_right (by simp)]
    simp [h43]
  · intro j v hj
    simp only [Array.toList_ofFn, List.getElem?_ofFn] at hj
    split at hj
    · rename_i hlt
      obtain ⟨u, h1, h2⟩ := hone j hlt
      simp only [Option.some.injEq] at hj
      rw [Nat.zero_add, h1]
      simpa [h1] using hj
    · cases hj

/-! ### STEP 1: THE WALK: the Go text returns true, and writes nothing that was there. -/
set_option maxHeartbeats 2000000 in
theorem walk (a0 : Bool) (a1 : Option Addr) (len1 cap1 : Nat) (z1 : List Int) (w : World) (w1 : IsRow .i32 w a1 len1 cap1 z1) :
    Calls Try.prog 7 #[.bool a0, .slice a1 len1 cap1] w fun e w' => e = .returned (.bool true) ∧ Below w.heap.size w w' := by
  have hml : len1 ≤ maxLen := by
    rcases w1 with ⟨_, h, _⟩ | ⟨_, _, h1, h2, _⟩ <;> unfold maxLen at * <;> omega
  have hel : ∀ k, k < len1 → ∃ b off n, a1 = some ⟨b, off, none⟩ ∧ w.cell? ⟨b, off + k, none⟩ = some (.int .i32 n) ∧ n < 2147483648 ∧ -2147483648 ≤ n := by
    intro k hk
    rcases w1 with ⟨_, h, _⟩ | ⟨x, rfl, h1, h2, h3, h4, h5⟩
    · omega
    · obtain ⟨b, off, rfl, hc⟩ := ints_at h4 (by omega)
      refine ⟨b, off, _, rfl, hc k (by omega), ?_⟩
      have hk2 : k < z1.length := by omega
      have := h5 (z1.getD k 0) (by rw [List.getD_eq_getElem?_getD, List.getElem?_eq_getElem hk2]; exact List.getElem_mem hk2)
      have hbd := bounds_i32 this
      exact ⟨by omega, by omega⟩
  clear w1
  go_enter Try.func7, Try.ntmps7
  go_wp2_with fail
  refine (zzb_any _ _ _ _ _ hml).mono ?_
  rintro e w' ⟨⟨x, rfl⟩, rfl⟩
  unfold maxLen at hml
  cases x
  · go_wp2_with fail
    go_ret
    exact ⟨rfl, Below.refl _ _⟩
  · by_cases hs : 65536 < (len1 : Int)
    · go_wp2_with fail
      go_ret
      exact ⟨rfl, Below.refl _ _⟩
    · go_wp2_with fail
      refine (stats_any _ _).mono ?_
      rintro e w2 ⟨rfl, hb2⟩
      have hbs := hb2.size
      obtain ⟨hinv, hrng⟩ := start w2 a0
      have hb3 := below_setCells w2.heap.size hb2.size (cs0 a0).toList 0 (hb2.alloc hb2.size (.cells (cs0 false) 52))
      have ht : (w2.alloc (.cells (cs0 false) 52)).there w2.heap.size 0 56 := there_new w2 _ 52 56 (by rw [cs0_size]; omega)
      go_wp2_with (first
        | refine wpList_alloc52 rfl rfl ?_
        | refine wpList_store_mid rfl 52 _ _ rfl w2.heap.size 0 (cs0 a0) (by rfl) (by rfl) (by rw [cs0_size]; exact ht) (by rw [cs0_size]; exact info52) (cs0_one a0) ?_)
      generalize (w2.alloc (.cells (cs0 false) 52)).setCells w2.heap.size 0 (cs0 a0).toList = W at *
      generalize w2.heap.size = b at *
      have hbb : w'.heap.size ≤ b := hbs
      clear hbs hb2 ht
      go_loopw [6] (fun i wr => ∃ k : Nat, k ≤ len1 ∧ i = .int .i64 k ∧ Inv b wr ∧ Below b W wr ∧ (∀ o, 24 ≤ o ∨ o = 0 ∨ o = 2 → wr.cell? ⟨b, o, none⟩ = W.cell? ⟨b, o, none⟩)) (fun i _ => len1 - (intOf i).toNat)
      case atStart => exact ⟨0, Nat.zero_le _, rfl, hinv, Below.refl _ _, fun _ _ => rfl⟩
      case round =>
        obtain ⟨k, hk, rfl, hi, hbl, hfar⟩ := hrel
        have hold : Below w'.heap.size w' wr := hb3.trans (hbl.mono hbb)
        by_cases hlt : k < len1
        · obtain ⟨bb, off, n, rfl, hc, hn, hn0⟩ := hel k hlt
          have hc' : wr.cell? ⟨bb, off + k, none⟩ = some (.int .i32 n) := by
            rw [hold.cell (World.block_lt_of_cell? _ _ hc)]; exact hc
          have HF : Hid (∀ o, 24 ≤ o ∨ o = 0 ∨ o = 2 → wr.cell? ⟨b, o, none⟩ = W.cell? ⟨b, o, none⟩) := hfar
          clear hc hfar hel
          go_wp2_with (go_at_call 23; refine (sadd_any _ b _ hi hn).mono ?_; rintro e w3 ⟨rfl, s⟩)
          go_roundw
          case rel => exact ⟨k + 1, by omega, by go_num, s.inv, hbl.trans s.below, fun o ho => by rw [s.far o ho]; exact HF.out o ho⟩
          case measure => simp [intOf]; omega
        · obtain ⟨C, hC, hC1, hC2, hC3⟩ := finish b a0 W wr hrng ⟨hi, hbl, hfar⟩
          have hC4 := mk56_size C hC
          clear hel hfar
          have HC : Hid (C.size = 56) := hC
          have HC1 : Hid (C.all (·.oneCell') = true) := hC1
          have HC2 : Hid ((mk56 C)[44]? = some (.bool a0)) := hC2
          have HC4 : Hid ((mk56 C).size = 57) := hC4
          clear hC hC1 hC2 hC4
          go_wp2_with (refine wpList_load_mid rfl 52 _ rfl b 0 (by rfl) C.toList _ hC3 Try.underlying52 rfl (by rw [Array.length_toList, HC.out]; exact info52) ?_)
          refine (rep_any C _ HC.out HC1.out).mono ?_
          rintro e w4 ⟨rfl, hb4⟩
          go_wp2_with fail
          refine (ccached_any (mk56 C) a0 _ HC4.out HC2.out).mono ?_
          rintro e w5 ⟨rfl, hb5⟩
          go_wp2_with fail
          go_ret
          refine ⟨?_, (hold.trans (hb4.mono hold.size)).trans (hb5.mono (Nat.le_trans hold.size hb4.size))⟩
          cases a0 <;> rfl

/-! ### THE ROW's STEP: WRITTEN OUT: LEAVE IT -/
set_option maxRecDepth 100000 in
theorem lifted (os : Os) (started : os.Started) (H : Type) (enc : TypeId × Value → H) :
    ReturnsInHanded {} Try.checked os 7 .any (Rows.fnCachedKeptThroughAddedLookupsSpec.pre6 enc Try.prog Try.f7 Rows.fnCachedKeptThroughAddedLookupsRow.domain false) (Rows.fnCachedKeptThroughAddedLookupsSpec.post enc Try.prog Try.f7 false true false false) := by
  refine returnsInHanded_of_change (C := Try.checked) own started (by kernel_rfl) Try.func7
    (ChangeSpec.witness6 (enc := enc) (C := Try.checked) false ⟨#[], #[.bool false, .slice none 0 0], []⟩ 8 (by kernel_rfl) (by kernel_rfl) (by kernel_rfl) (by kernel_rfl)) ?_
  intro W base args ds gs before hval0 hW hcnd _
  have hval : ∀ (j : Nat) t v, Try.f7.params[j]? = some t → args[j]? = some v → Value.okWide Try.prog W .any base t v := hval0
  have hW' := hW
  obtain ⟨p, q, hA0, hV, rfl, hfz, hnd⟩ := hW
  have hA : DataW.TrodAll enc Try.prog W 0 (fun _ => true) true Try.f7.params.toList args.toList ds p := hA0
  rw [Try.params7] at hA hval
  obtain ⟨v0, vs0, d0, ds0, p0, q0, hargs, rfl, rfl, h0, r0⟩ := trodAll_cons hA
  obtain ⟨v1, vs1, d1, ds1, p1, q1, rfl, rfl, rfl, h1, r1⟩ := trodAll_cons r0
  obtain ⟨rfl, rfl, rfl⟩ := trodAll_nil r1
  obtain rfl : args = #[v0, v1] := by cases args; simp_all
  obtain ⟨rfl, rfl⟩ := trodVars_none hV
  obtain ⟨a0, rfl, rfl, rfl⟩ := open_bool Try.underlying4 (hval 0 4 v0 rfl rfl) h0
  obtain ⟨a1, len1, cap1, rfl⟩ := okWide_slice Try.underlying61 (hval 1 61 v1 rfl rfl)
  have k1 := h1
  have lt1 : ∀ x ∈ p1, x.block < W.heap.size := by obtain ⟨m, hm⟩ := k1; exact DataW.trod_lt m _ _ _ hm
  obtain ⟨z1, w1⟩ : ∃ zs, IsRow .i32 W a1 len1 cap1 zs := by
    obtain ⟨fuel, hf⟩ := h1
    rcases open_ints Try.underlying61 Try.underlying21 (by kernel_rfl) hf with ⟨hcs, _⟩ | ⟨x, l, c, zs, hcs, _, hl, hm, hz, _, hcell, hwz⟩
    · simp [Value.cells] at hcs
      obtain ⟨rfl, rfl, rfl⟩ := hcs
      exact ⟨[], .inl ⟨rfl, rfl, rfl, rfl⟩⟩
    · simp [Value.cells] at hcs
      obtain ⟨rfl, rfl, rfl⟩ := hcs
      exact ⟨zs, .inr ⟨_, rfl, hl, hm, by simpa using hz, hcell, hwz⟩⟩
  clear hA0 hval0
  refine (walk a0 a1 len1 cap1 z1 W w1).mono fun e W' ⟨he, bel⟩ => ?_
  subst he
  exact ⟨_, rfl, _, _, _, [], _, [], hW', trodAll_mk1 (shut_bool Try.underlying4 _), (trodAll_cons_mk (shut_bool Try.underlying4 _) (trodAll_cons_mk (Below.trod laidOut (by kernel_rfl) (of_decide_eq_true (by kernel_rfl)) k1 bel lt1) trodAll_mk0)), rfl, bel.frame _, fun h => by cases h⟩

theorem over : Rows.fnCachedKeptThroughAddedLookupsRow.holds Try.pinned (OpenSpec.ofChange Rows.fnCachedKeptThroughAddedLookupsSpec) :=
  OpenClaim.holds_of_wide 7 Try.f7 rfl rfl rfl rfl rfl rfl rfl ⟨rfl, rfl, rfl, rfl, rfl⟩ rfl rfl rfl rfl rfl (by kernel_rfl) Try.func7 (by kernel_rfl)
    (of_decide_eq_true (by kernel_rfl)) (by unfold Func.isWrapper; first | (rw [if_pos (by decide +kernel)]; kernel_rfl) | (rw [if_neg (by decide +kernel)]; exact ⟨rfl, rfl⟩))
    (fun os started H enc _ => lifted os started H enc)

/-- ████ THE STATEMENT ████ -/
theorem proved : Rows.FnCachedKeptThroughAddedLookupsSaid := over
end Go.Proofs.Qxb6615502a.fnCachedKeptThroughAddedLookups

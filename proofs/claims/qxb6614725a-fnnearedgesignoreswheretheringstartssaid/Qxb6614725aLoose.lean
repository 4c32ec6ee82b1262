/-
  A REGION THAT DRAWS ITS ORDER, WHOSE OPERATIONS LEAVE A WORLD OF A CLASS, EACH SOME VALUE OF A SET THAT IS NAMED AHEAD: ONE WALK OF THE LEXICAL ORDER SERVES EVERY ORDER.
  After the library's Derived/Deep/Quiet.lean, with a set of values (named ahead, one for each operation) in the place of the one value: a float operation whose result is a NaN draws the NaN's bits.
-/
import Derived.Deep.Quiet
namespace Go.Loose
open Go

section
variable {P : Program} {ops : Array Oper} {md : Region.Mode} {C : World → Prop}

/-- What is asked once an operation has yielded this. -/
def upon (P : Program) (C : World → Prop) (V : Value → Prop) : Result Next → Prop
  | .ok (.value u) w' => V u ∧ C w'
  | .ok .skip w' => V undef ∧ C w'
  | .ok (.enter f args) w' => Calls P f args w' (fun e w'' => (∃ v, e = .returned v ∧ V v) ∧ C w'')
  | _ => False

/-- In state 'a', in every world of the class, the operation leaves a value of V and a world of the class; passed over by its guard it leaves 'undef', which is of V. -/
def At (P : Program) (ops : Array Oper) (C : World → Prop) (o : Oper) (V : Value → Prop) (a : Act) : Prop :=
  if Region.wanted o (yielded ops a.tmps) then ∀ w, C w → upon P C V ((execOp a.eval o).run P w) else V undef

/-- THE LEXICAL WALK. -/
def wpL (P : Program) (ops : Array Oper) (C : World → Prop) (Q : Act → Prop) : List Oper → List (Value → Prop) → Act → Prop
  | [], _, a => Q a
  | _ :: _, [], _ => False
  | o :: rest, V :: Vs, a => At P ops C o V a ∧ ∀ v, V v → wpL P ops C Q rest Vs (a.put o.dst v)

theorem wpL_nil {Q : Act → Prop} {Vs : List (Value → Prop)} {a : Act} (h : Q a) : wpL P ops C Q [] Vs a := h
theorem wpL_cons {Q : Act → Prop} {o : Oper} {rest : List Oper} {V : Value → Prop} {Vs : List (Value → Prop)} {a : Act}
    (h1 : At P ops C o V a) (h2 : ∀ v, V v → wpL P ops C Q rest Vs (a.put o.dst v)) : wpL P ops C Q (o :: rest) (V :: Vs) a := ⟨h1, h2⟩

/-- Operation number 'i' comes up in state 'a'. -/
def lOp (P : Program) (ops : Array Oper) (Vs : List (Value → Prop)) (C : World → Prop) (i : Nat) (K : Act → Prop) (a : Act) : Prop :=
  match ops[i]?, Vs[i]? with
  | none, _ => K a
  | some _, none => False
  | some o, some V => At P ops C o V a ∧ ∀ v, V v → K (a.put o.dst v)

theorem lOp_mono {Vs : List (Value → Prop)} {i : Nat} {a : Act} {K K' : Act → Prop} (h : ∀ a, K a → K' a) (hh : lOp P ops Vs C i K a) : lOp P ops Vs C i K' a := by
  unfold lOp at *
  split
  · rename_i ho; simp only [ho] at hh; exact h _ hh
  · rename_i ho hv; simp only [ho, hv] at hh
  · rename_i ho hv; simp only [ho, hv] at hh; exact ⟨hh.1, fun v hv => h _ (hh.2 v hv)⟩

/-- Whatever order is picked from here on. -/
def wpAnyL (P : Program) (md : Region.Mode) (ops : Array Oper) (Vs : List (Value → Prop)) (C : World → Prop) (Q : Act → Prop) : Nat → Array Bool → Act → Prop
  | 0, listed, a => Region.ready md ops listed = [] ∧ Q a
  | fuel + 1, listed, a =>
    (Region.ready md ops listed = [] → Q a) ∧
    ∀ i ∈ Region.ready md ops listed, lOp P ops Vs C i (wpAnyL P md ops Vs C Q fuel (listed.setIfInBounds i true)) a

theorem wpOp_of_lOp {Vs : List (Value → Prop)} {i : Nat} {a : Act} {K : Act → Prop} {K' : Act → World → Prop} {Q' : Exit → Act → World → Prop} {w : World} (hC : C w) (h : ∀ a w', C w' → K a → K' a w')
    (hh : lOp P ops Vs C i K a) : wpOp P ops Q' i K' a w := by
  unfold lOp at hh
  unfold wpOp
  split
  · rename_i ho; simp only [ho] at hh; exact h _ _ hC hh
  · rename_i o ho
    simp only [ho] at hh
    cases hV : Vs[i]? with
    | none => simp only [hV] at hh
    | some V =>
      simp only [hV] at hh
      obtain ⟨h1, h2⟩ := hh
      unfold At at h1
      split
      · rename_i hw
        rw [if_pos hw] at h1
        refine .inl ?_
        have h3 := h1 w hC
        unfold Oper.wp
        generalize (execOp a.eval o).run P w = r at *
        cases r with
        | ok n w' =>
          cases n <;> simp only [upon] at h3 <;> simp only [Oper.upon]
          case value u => exact h _ _ h3.2 (h2 _ h3.1)
          case skip => exact h _ _ h3.2 (h2 _ h3.1)
          case enter f args =>
            exact h3.mono fun e w'' ⟨⟨v, he, hv⟩, hw''⟩ => by subst he; exact h _ _ hw'' (h2 _ hv)
        | halt x w' => simp only [upon] at h3
      · rename_i hw
        rw [if_neg hw] at h1
        exact h _ _ hC (h2 _ h1)

theorem wpAny_of_loose {Vs : List (Value → Prop)} {Q : Act → Prop} {Q' : Exit → Act → World → Prop} (hQ : ∀ a w, C w → Q a → Q' .normal a w) : ∀ (fuel : Nat) (listed : Array Bool) (a : Act) (w : World), C w →
    wpAnyL P md ops Vs C Q fuel listed a → wpAny P md ops Q' fuel listed a w
  | 0, _, _, _, hw, h => ⟨h.1, hQ _ _ hw h.2⟩
  | fuel + 1, _, _, _, hw, h => ⟨fun h0 => hQ _ _ hw (h.1 h0), fun i hi => wpOp_of_lOp hw (fun a' w' hw' => wpAny_of_loose hQ fuel _ a' w' hw') (h.2 i hi)⟩

theorem At.of_same {o : Oper} {V : Value → Prop} {a a' : Act} (hy : At P ops C o V a) (he : execOp a'.eval o = execOp a.eval o)
    (hw : Region.wanted o (yielded ops a'.tmps) = Region.wanted o (yielded ops a.tmps)) : At P ops C o V a' := by
  unfold At at *
  rw [he, hw]
  exact hy

/-- Where the class has a world, V has a value. -/
theorem At.nonempty {o : Oper} {V : Value → Prop} {a : Act} {w : World} (hC : C w) (h : At P ops C o V a) : ∃ v, V v := by
  unfold At at h
  split at h
  · have h3 := h w hC
    generalize (execOp a.eval o).run P w = r at *
    cases r with
    | ok n w' =>
      cases n <;> simp only [upon] at h3
      case value u => exact ⟨_, h3.1⟩
      case skip => exact ⟨_, h3.1⟩
      case enter f args => obtain ⟨e, w'', fr, ⟨⟨v, _, hv⟩, _⟩, _⟩ := h3 []; exact ⟨v, hv⟩
    | halt x w' => simp only [upon] at h3
  · exact ⟨_, h⟩

/-- One operation 'oj', apart from 'oi': whether 'oi''s value is already in its temporary makes no difference to it, and it makes none to 'oi'. -/
theorem lOp_put {Vs : List (Value → Prop)} {j : Nat} {oi oj : Oper} {Vi : Value → Prop} {w : World} (hC : C w) (hj : ops[j]? = some oj) (hap : oi.apart ops oj = true)
    (hsi : ∀ cs b, oi.op ≠ .select cs b) (hsj : ∀ cs b, oj.op ≠ .select cs b) {K : Act → Prop} {a : Act}
    (hy : At P ops C oi Vi a) (h : ∀ v, Vi v → lOp P ops Vs C j K (a.put oi.dst v)) :
    lOp P ops Vs C j (fun a' => At P ops C oi Vi a' ∧ ∀ v, Vi v → K (a'.put oi.dst v)) a := by
  obtain ⟨h1, h2, h3⟩ := Oper.apart_spec hap
  obtain ⟨v0, hv0⟩ := hy.nonempty hC
  unfold lOp at *
  simp only [hj] at *
  cases hV : Vs[j]? with
  | none =>
    have := h v0 hv0
    simp only [hV] at this
  | some Vj =>
    simp only [hV] at *
    refine ⟨(h v0 hv0).1.of_same (execOp_put oj hsj a oi.dst v0 h1).symm (wanted_put oj a oi.dst v0 h1).symm, fun u hu => ⟨?_, fun v hv => ?_⟩⟩
    · exact hy.of_same (execOp_put oi hsi a oj.dst u h3) (wanted_put oi a oj.dst u h3)
    · rw [← Act.put_comm a v u h2]
      exact (h v hv).2 u hu

/-- An operation that may come up now may be taken first. -/
theorem wpAnyL_first {Vs : List (Value → Prop)} {Q : Act → Prop} {i : Nat} {oi : Oper} {Vi : Value → Prop} {w : World} (hC : C w) (hi : ops[i]? = some oi) (hVi : Vs[i]? = some Vi)
    (hsel : ∀ (j : Nat) (o : Oper) cs b, ops[j]? = some o → o.op ≠ .select cs b) :
    ∀ (fuel : Nat) (listed : Array Bool) (a : Act),
      (∀ j oj, ops[j]? = some oj → j ≠ i → listed.getD j true = false → (∀ e ∈ oj.after, Region.binds md e = true → e.on ≠ i) → oi.apart ops oj = true) →
      i ∈ Region.ready md ops listed → At P ops C oi Vi a →
      (∀ v, Vi v → wpAnyL P md ops Vs C Q fuel (listed.setIfInBounds i true) (a.put oi.dst v)) → wpAnyL P md ops Vs C Q (fuel + 1) listed a := by
  have hself : ∀ (K : Act → Prop) (a : Act), At P ops C oi Vi a → (∀ v, Vi v → K (a.put oi.dst v)) → lOp P ops Vs C i K a := by
    intro K a h1 h2
    unfold lOp
    simp only [hi, hVi]
    exact ⟨h1, h2⟩
  intro fuel
  induction fuel with
  | zero =>
    intro listed a _ hr hy H
    obtain ⟨v0, hv0⟩ := hy.nonempty hC
    refine ⟨fun h => (by rw [h] at hr; cases hr), fun j hj => ?_⟩
    by_cases hji : j = i
    · subst hji; exact hself _ _ hy H
    · have := ready_mono hj hji
      rw [(H v0 hv0).1] at this
      cases this
  | succ fuel ih =>
    intro listed a hfree hr hy H
    refine ⟨fun h => (by rw [h] at hr; cases hr), fun j hj => ?_⟩
    by_cases hji : j = i
    · subst hji; exact hself _ _ hy H
    · have h1 := fun v hv => (H v hv).2 j (ready_mono hj hji)
      obtain ⟨hjun, oj, hoj, hall⟩ := mem_ready.1 hj
      have hnot : ∀ e ∈ oj.after, Region.binds md e = true → e.on ≠ i := fun e he hb heq => by
        have h1 := hall e he hb
        have h0 := (mem_ready.1 hr).1
        rw [heq] at h1
        rcases Nat.lt_or_ge i listed.size with h' | h'
        · simp [h'] at h0 h1; rw [h0] at h1; cases h1
        · simp [Array.getElem?_eq_none h'] at h1
      have h2 := lOp_put hC hoj (hfree j oj hoj hji hjun hnot) (fun cs b => hsel i oi cs b hi) (fun cs b => hsel j oj cs b hoj) hy h1
      have hfree' : ∀ k ok, ops[k]? = some ok → k ≠ i → (listed.setIfInBounds j true).getD k true = false →
          (∀ e ∈ ok.after, Region.binds md e = true → e.on ≠ i) → oi.apart ops ok = true := fun k ok hk hki hun hno => by
        refine hfree k ok hk hki ?_ hno
        by_cases hjk : j = k
        · subst hjk; exact hjun
        · rw [getD_set_ne true hjk] at hun; exact hun
      refine lOp_mono (fun a' h3 => ih (listed.setIfInBounds j true) a' hfree' (ready_mono hr (Ne.symm hji)) h3.1 (fun v hv => ?_)) h2
      rw [Array.setIfInBounds_comm _ _ hji]
      exact h3.2 v hv

theorem wpAnyL_lex {Vs0 : List (Value → Prop)} {Q : Act → Prop} {w : World} (hC : C w) (hs : Region.noSelect ops = true) : ∀ (l : List Oper) (Vs : List (Value → Prop)) (k : Nat) (listed : Array Bool) (a : Act), (∀ j, l[j]? = ops[k + j]?) →
    (∀ j, Vs[j]? = Vs0[k + j]?) → Region.lexFrom md ops l.length k listed = true → wpL P ops C Q l Vs a → wpAnyL P md ops Vs0 C Q l.length listed a
  | [], _, _, _, _, _, _, hB, h => ⟨by simpa [Region.lexFrom] using hB, h⟩
  | o :: l, [], _, _, _, _, _, _, h => h.elim
  | o :: l, V :: Vs, k, listed, a, hl, hv, hB, h => by
    have h0 : ops[k]? = some o := by simpa using (hl 0).symm
    have hV0 : Vs0[k]? = some V := by simpa using (hv 0).symm
    simp only [List.length_cons, Region.lexFrom, Bool.and_eq_true] at hB
    obtain ⟨⟨hr, hf⟩, hB'⟩ := hB
    obtain ⟨h1, h2⟩ := h
    exact wpAnyL_first hC h0 hV0 (Region.noSelect_spec hs) l.length listed a (Region.free_spec h0 hf) (by simpa using hr) h1
      (fun v hv1 => wpAnyL_lex hC hs l Vs (k + 1) _ _ (fun j => by have := hl (j + 1); simpa [Nat.add_assoc, Nat.add_comm 1 j] using this)
        (fun j => by have := hv (j + 1); simpa [Nat.add_assoc, Nat.add_comm 1 j] using this) hB' (h2 v hv1))

/-- **ONE WALK OF THE LEXICAL ORDER SERVES EVERY ORDER.** -/
theorem wp_region {id : Nat} {Q : Exit → Act → World → Prop} {a : Act} {w : World} {l : List Oper} (Vs : List (Value → Prop)) (hm : P.follows .mixedOrders = true) (hB : Region.lexB .any l.toArray = true) (hC : C w.drew)
    (h : wpL P l.toArray C (fun a' => ∀ w', C w' → Q .normal a' w') l Vs a) : (Code.region id l.toArray true).wp P Q a w := by
  simp only [Region.lexB, Bool.and_eq_true] at hB
  refine wp_region_any hm (wpAny_of_loose (Vs := Vs) (Q := fun a' => ∀ w', C w' → Q .normal a' w') (fun _ w' hw' h => h w' hw') _ _ _ _ hC ?_)
  have := wpAnyL_lex (Vs0 := Vs) (C := C) (md := .any) (w := w.drew) hC hB.1 l Vs 0 (Array.replicate l.toArray.size false) a (by simp) (by simp) (by simpa using hB.2) h
  simpa using this

end
end Go.Loose

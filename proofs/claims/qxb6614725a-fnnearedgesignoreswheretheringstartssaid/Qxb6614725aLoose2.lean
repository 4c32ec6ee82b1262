/-
  A REGION THAT DRAWS ITS ORDER AND HOLDS CALLS THAT MAKE MEMORY: ONE WALK OF THE LEXICAL ORDER SERVES EVERY ORDER.
  Two kinds of operation: 'pure' (its value is of a set named ahead, in every world later than the region's start), 'call' (what it yields is told of the world behind it). The calls are bound to each other by 'after' edges, so only pure operations change places.
-/
import Derived.Test.Qxb6614725aLoose
import Derived.Below
namespace Go.Loose2
open Go Go.Loose Go.RowKit

/-- Later: what was there lies as it lay. -/
abbrev S (w w' : World) : Prop := Below w.heap.size w w'
theorem S.refl (w : World) : S w w := Below.refl _ _
theorem S.trans {a b c : World} (h : S a b) (h' : S b c) : S a c := Below.trans h (h'.mono h.size)

inductive Kind where
  | pure (V : Value → Prop)
  | call (V : Value → World → Prop)

section
variable {P : Program} {ops : Array Oper} {md : Region.Mode} {W0 : World}

/-- What is asked once a call has yielded this. -/
def uponC (P : Program) (R : Value → World → Prop) : Result Next → Prop
  | .ok (.value u) w' => R u w'
  | .ok .skip w' => R undef w'
  | .ok (.enter f args) w' => Calls P f args w' (fun e w'' => ∃ v, e = .returned v ∧ R v w'')
  | _ => False

def AtC (P : Program) (ops : Array Oper) (o : Oper) (V : Value → World → Prop) (a : Act) (w0 : World) : Prop :=
  Region.wanted o (yielded ops a.tmps) = true ∧ ∀ w, S w0 w → uponC P (fun v w' => V v w' ∧ S w w') ((execOp a.eval o).run P w)

/-- A pure operation: in every later world it leaves a value of V and a world later yet. -/
def AtP (P : Program) (ops : Array Oper) (W0 : World) (o : Oper) (V : Value → Prop) (a : Act) : Prop :=
  if Region.wanted o (yielded ops a.tmps) then ∀ w, S W0 w → uponC P (fun v w' => V v ∧ S w w') ((execOp a.eval o).run P w) else V undef

theorem AtP.of {o : Oper} {V : Value → Prop} {a : Act} (h : ∀ w1, S W0 w1 → At P ops (S w1) o V a) : AtP P ops W0 o V a := by
  unfold AtP
  split
  · rename_i hw
    intro w hS
    have h1 := h w hS
    unfold At at h1
    rw [if_pos hw] at h1
    have h2 := h1 w (S.refl w)
    generalize (execOp a.eval o).run P w = r at *
    cases r with
    | ok n w' =>
      cases n <;> simp only [upon] at h2 <;> simp only [uponC]
      case value u => exact h2
      case skip => exact h2
      case enter f args => exact h2.mono fun e w'' ⟨⟨v, he, hv⟩, hs⟩ => ⟨v, he, hv, hs⟩
    | halt x w' => simp only [upon] at h2
  · rename_i hw
    have h1 := h W0 (S.refl W0)
    unfold At at h1
    rw [if_neg hw] at h1
    exact h1

/-- One operation, at a state whose world is later than 'w0'. -/
def step (P : Program) (ops : Array Oper) (W0 : World) (o : Oper) : Kind → (Act → World → Prop) → Act → World → Prop
  | .pure V, K, a, w0 => AtP P ops W0 o V a ∧ ∀ v, V v → K (a.put o.dst v) w0
  | .call V, K, a, w0 => AtC P ops o V a w0 ∧ ∀ v w', S w0 w' → V v w' → K (a.put o.dst v) w'

/-- THE LEXICAL WALK. -/
def wpL (P : Program) (ops : Array Oper) (W0 : World) (Q : Act → World → Prop) : List Oper → List Kind → Act → World → Prop
  | [], _, a, w => Q a w
  | _ :: _, [], _, _ => False
  | o :: rest, k :: ks, a, w => step P ops W0 o k (wpL P ops W0 Q rest ks) a w

theorem wpL_nil {Q : Act → World → Prop} {ks : List Kind} {a : Act} {w : World} (h : Q a w) : wpL P ops W0 Q [] ks a w := h
theorem wpL_pure {Q : Act → World → Prop} {o : Oper} {rest : List Oper} {V : Value → Prop} {ks : List Kind} {a : Act} {w : World}
    (h1 : ∀ w1, S W0 w1 → At P ops (S w1) o V a) (h2 : ∀ v, V v → wpL P ops W0 Q rest ks (a.put o.dst v) w) : wpL P ops W0 Q (o :: rest) (.pure V :: ks) a w := ⟨AtP.of h1, h2⟩
theorem wpL_call {Q : Act → World → Prop} {o : Oper} {rest : List Oper} {V : Value → World → Prop} {ks : List Kind} {a : Act} {w : World}
    (h1 : AtC P ops o V a w) (h2 : ∀ v w', S w w' → V v w' → wpL P ops W0 Q rest ks (a.put o.dst v) w') : wpL P ops W0 Q (o :: rest) (.call V :: ks) a w := ⟨h1, h2⟩

def lOp (P : Program) (ops : Array Oper) (ks : List Kind) (W0 : World) (i : Nat) (K : Act → World → Prop) (a : Act) (w0 : World) : Prop :=
  match ops[i]?, ks[i]? with
  | none, _ => K a w0
  | some _, none => False
  | some o, some k => step P ops W0 o k K a w0

theorem step_mono {o : Oper} {k : Kind} {K K' : Act → World → Prop} {a : Act} {w0 : World} (hW : S W0 w0) (h : ∀ a w, S W0 w → K a w → K' a w) (hh : step P ops W0 o k K a w0) : step P ops W0 o k K' a w0 := by
  cases k with
  | pure V => exact ⟨hh.1, fun v hv => h _ _ hW (hh.2 v hv)⟩
  | call V => exact ⟨hh.1, fun v w' hs hv => h _ _ (hW.trans hs) (hh.2 v w' hs hv)⟩

theorem lOp_mono {ks : List Kind} {i : Nat} {a : Act} {w0 : World} {K K' : Act → World → Prop} (hW : S W0 w0) (h : ∀ a w, S W0 w → K a w → K' a w) (hh : lOp P ops ks W0 i K a w0) : lOp P ops ks W0 i K' a w0 := by
  unfold lOp at *
  split
  · rename_i ho; simp only [ho] at hh; exact h _ _ hW hh
  · rename_i ho hv; simp only [ho, hv] at hh
  · rename_i ho hv; simp only [ho, hv] at hh; exact step_mono hW h hh

def wpAnyL (P : Program) (md : Region.Mode) (ops : Array Oper) (ks : List Kind) (W0 : World) (Q : Act → World → Prop) : Nat → Array Bool → Act → World → Prop
  | 0, listed, a, w => Region.ready md ops listed = [] ∧ Q a w
  | fuel + 1, listed, a, w =>
    (Region.ready md ops listed = [] → Q a w) ∧
    ∀ i ∈ Region.ready md ops listed, lOp P ops ks W0 i (wpAnyL P md ops ks W0 Q fuel (listed.setIfInBounds i true)) a w

theorem wpOp_of_lOp {ks : List Kind} {i : Nat} {a : Act} {K : Act → World → Prop} {K' : Act → World → Prop} {Q' : Exit → Act → World → Prop} {w0 w : World} (hW : S W0 w0) (hS : S w0 w) (h : ∀ a w1 w', S W0 w1 → S w1 w' → K a w1 → K' a w')
    (hh : lOp P ops ks W0 i K a w0) : wpOp P ops Q' i K' a w := by
  unfold lOp at hh
  unfold wpOp
  split
  · rename_i ho; simp only [ho] at hh; exact h _ _ _ hW hS hh
  · rename_i o ho
    simp only [ho] at hh
    cases hV : ks[i]? with
    | none => simp only [hV] at hh
    | some k =>
      simp only [hV] at hh
      cases k with
      | pure V =>
        obtain ⟨h1, h2⟩ := hh
        unfold AtP at h1
        split
        · rename_i hw
          rw [if_pos hw] at h1
          refine .inl ?_
          have h3 := h1 w (hW.trans hS)
          unfold Oper.wp
          generalize (execOp a.eval o).run P w = r at *
          cases r with
          | ok n w' =>
            cases n <;> simp only [uponC] at h3 <;> simp only [Oper.upon]
            case value u => exact h _ _ _ hW (hS.trans h3.2) (h2 _ h3.1)
            case skip => exact h _ _ _ hW (hS.trans h3.2) (h2 _ h3.1)
            case enter f args =>
              exact h3.mono fun e w'' ⟨v, he, hv, hs⟩ => by subst he; exact h _ _ _ hW (hS.trans hs) (h2 _ hv)
          | halt x w' => simp only [uponC] at h3
        · rename_i hw
          rw [if_neg hw] at h1
          exact h _ _ _ hW hS (h2 _ h1)
      | call V =>
        obtain ⟨⟨hw, h1⟩, h2⟩ := hh
        rw [if_pos hw]
        refine .inl ?_
        have h3 := h1 w hS
        unfold Oper.wp
        generalize (execOp a.eval o).run P w = r at *
        cases r with
        | ok n w' =>
          cases n <;> simp only [uponC] at h3 <;> simp only [Oper.upon]
          case value u => exact h _ _ _ (hW.trans (hS.trans h3.2)) (S.refl _) (h2 _ _ (hS.trans h3.2) h3.1)
          case skip => exact h _ _ _ (hW.trans (hS.trans h3.2)) (S.refl _) (h2 _ _ (hS.trans h3.2) h3.1)
          case enter f args =>
            exact h3.mono fun e w'' ⟨v, he, hv, hs⟩ => by subst he; exact h _ _ _ (hW.trans (hS.trans hs)) (S.refl _) (h2 _ _ (hS.trans hs) hv)
        | halt x w' => simp only [uponC] at h3

theorem wpAny_of_loose {ks : List Kind} {Q : Act → World → Prop} {Q' : Exit → Act → World → Prop} (hQ : ∀ a w w', S w w' → Q a w → Q' .normal a w') : ∀ (fuel : Nat) (listed : Array Bool) (a : Act) (w0 w : World), S W0 w0 → S w0 w →
    wpAnyL P md ops ks W0 Q fuel listed a w0 → wpAny P md ops Q' fuel listed a w
  | 0, _, _, _, _, _, hS, h => ⟨h.1, hQ _ _ _ hS h.2⟩
  | fuel + 1, _, _, _, _, hW, hS, h => ⟨fun h0 => hQ _ _ _ hS (h.1 h0), fun i hi => wpOp_of_lOp hW hS (fun a' w1 w' hw1 hw' => wpAny_of_loose hQ fuel _ a' w1 w' hw1 hw') (h.2 i hi)⟩

theorem AtP.of_same {o : Oper} {V : Value → Prop} {a a' : Act} (hy : AtP P ops W0 o V a) (he : execOp a'.eval o = execOp a.eval o)
    (hw : Region.wanted o (yielded ops a'.tmps) = Region.wanted o (yielded ops a.tmps)) : AtP P ops W0 o V a' := by
  unfold AtP at *
  rw [he, hw]
  exact hy
theorem AtC.of_same {o : Oper} {V : Value → World → Prop} {a a' : Act} {w : World} (hy : AtC P ops o V a w) (he : execOp a'.eval o = execOp a.eval o)
    (hw : Region.wanted o (yielded ops a'.tmps) = Region.wanted o (yielded ops a.tmps)) : AtC P ops o V a' w := by
  unfold AtC at *
  rw [he, hw]
  exact hy

theorem uponC.nonempty {R : Value → World → Prop} {r : Result Next} (h : uponC P R r) : ∃ v w, R v w := by
  cases r with
  | ok n w' =>
    cases n <;> simp only [uponC] at h
    case value u => exact ⟨_, _, h⟩
    case skip => exact ⟨_, _, h⟩
    case enter f args => obtain ⟨e, w'', fr, ⟨v, _, hv⟩, _⟩ := h []; exact ⟨v, w'', hv⟩
  | halt x w' => simp only [uponC] at h

theorem AtP.nonempty {o : Oper} {V : Value → Prop} {a : Act} (h : AtP P ops W0 o V a) : ∃ v, V v := by
  unfold AtP at h
  split at h
  · obtain ⟨v, _, hv, _⟩ := (h W0 (S.refl _)).nonempty
    exact ⟨v, hv⟩
  · exact ⟨_, h⟩
theorem AtC.nonempty {o : Oper} {V : Value → World → Prop} {a : Act} {w0 : World} (h : AtC P ops o V a w0) : ∃ v w, S w0 w ∧ V v w := by
  obtain ⟨v, w, hv, hs⟩ := (h.2 w0 (S.refl _)).nonempty
  exact ⟨v, w, hs, hv⟩

def Kind.isC : Kind → Bool
  | .pure _ => false
  | .call _ => true

/-- One operation 'oj', apart from 'oi', not both calls: it may come before. -/
theorem lOp_put {ks : List Kind} {j : Nat} {oi oj : Oper} {ki : Kind} (hj : ops[j]? = some oj) (hap : oi.apart ops oj = true)
    (hsi : ∀ cs b, oi.op ≠ .select cs b) (hsj : ∀ cs b, oj.op ≠ .select cs b) (hcc : ki.isC = true → ∀ kj, ks[j]? = some kj → kj.isC = false) {K : Act → World → Prop} {a : Act} {w : World}
    (h : step P ops W0 oi ki (lOp P ops ks W0 j K) a w) :
    lOp P ops ks W0 j (step P ops W0 oi ki K) a w := by
  obtain ⟨h1, h2, h3⟩ := Oper.apart_spec hap
  cases ki with
  | pure Vi =>
    obtain ⟨hy, h⟩ := h
    obtain ⟨v0, hv0⟩ := hy.nonempty
    unfold lOp at *
    simp only [hj] at *
    cases hV : ks[j]? with
    | none => have := h v0 hv0; simp only [hV] at this
    | some kj =>
      simp only [hV] at *
      cases kj with
      | pure Vj =>
        refine ⟨(h v0 hv0).1.of_same (execOp_put oj hsj a oi.dst v0 h1).symm (wanted_put oj a oi.dst v0 h1).symm, fun u hu => ⟨?_, fun v hv => ?_⟩⟩
        · exact hy.of_same (execOp_put oi hsi a oj.dst u h3) (wanted_put oi a oj.dst u h3)
        · rw [← Act.put_comm a v u h2]
          exact (h v hv).2 u hu
      | call Vj =>
        refine ⟨(h v0 hv0).1.of_same (execOp_put oj hsj a oi.dst v0 h1).symm (wanted_put oj a oi.dst v0 h1).symm, fun u w' hs hu => ⟨?_, fun v hv => ?_⟩⟩
        · exact hy.of_same (execOp_put oi hsi a oj.dst u h3) (wanted_put oi a oj.dst u h3)
        · rw [← Act.put_comm a v u h2]
          exact (h v hv).2 u w' hs hu
  | call Vi =>
    obtain ⟨hy, h⟩ := h
    obtain ⟨v0, w1, hs0, hv0⟩ := hy.nonempty
    unfold lOp at *
    simp only [hj] at *
    cases hV : ks[j]? with
    | none => have := h v0 w1 hs0 hv0; simp only [hV] at this
    | some kj =>
      simp only [hV] at *
      cases kj with
      | pure Vj =>
        refine ⟨(h v0 w1 hs0 hv0).1.of_same (execOp_put oj hsj a oi.dst v0 h1).symm (wanted_put oj a oi.dst v0 h1).symm, fun u hu => ⟨?_, fun v w' hs hv => ?_⟩⟩
        · exact hy.of_same (execOp_put oi hsi a oj.dst u h3) (wanted_put oi a oj.dst u h3)
        · rw [← Act.put_comm a v u h2]
          exact (h v w' hs hv).2 u hu
      | call Vj =>
        have := hcc rfl _ rfl
        cases this

/-- Every call that is not listed, but for number 'i', waits for a call that is not listed. -/
def Waits (md : Region.Mode) (ops : Array Oper) (ks : List Kind) (listed : Array Bool) (i : Nat) : Prop :=
  ∀ j oj kj, ops[j]? = some oj → ks[j]? = some kj → kj.isC = true → j ≠ i → listed.getD j true = false →
    ∃ e ∈ oj.after, Region.binds md e = true ∧ listed.getD e.on false = false ∧ ∀ k, ks[e.on]? = some k → k.isC = true

theorem wpAnyL_first {ks : List Kind} {Q : Act → World → Prop} {i : Nat} {oi : Oper} {ki : Kind} (hi : ops[i]? = some oi) (hki : ks[i]? = some ki)
    (hsel : ∀ (j : Nat) (o : Oper) cs b, ops[j]? = some o → o.op ≠ .select cs b) :
    ∀ (fuel : Nat) (listed : Array Bool) (a : Act) (w : World), S W0 w →
      (∀ j oj, ops[j]? = some oj → j ≠ i → listed.getD j true = false → (∀ e ∈ oj.after, Region.binds md e = true → e.on ≠ i) → oi.apart ops oj = true) →
      (ki.isC = true → Waits md ops ks listed i) →
      i ∈ Region.ready md ops listed →
      step P ops W0 oi ki (wpAnyL P md ops ks W0 Q fuel (listed.setIfInBounds i true)) a w → wpAnyL P md ops ks W0 Q (fuel + 1) listed a w := by
  have hself : ∀ (K : Act → World → Prop) (a : Act) (w : World), step P ops W0 oi ki K a w → lOp P ops ks W0 i K a w := by
    intro K a w h1
    unfold lOp
    simp only [hi, hki]
    exact h1
  have hne : ∀ {K : Act → World → Prop} {a w}, step P ops W0 oi ki K a w → ∃ a' w', K a' w' := by
    intro K a w h
    cases ki with
    | pure V => obtain ⟨v, hv⟩ := AtP.nonempty h.1; exact ⟨_, _, h.2 v hv⟩
    | call V => obtain ⟨v, w', hs, hv⟩ := AtC.nonempty h.1; exact ⟨_, _, h.2 v w' hs hv⟩
  intro fuel
  induction fuel with
  | zero =>
    intro listed a w _ _ _ hr H
    obtain ⟨_, _, h0⟩ := hne H
    refine ⟨fun h => (by rw [h] at hr; cases hr), fun j hj => ?_⟩
    by_cases hji : j = i
    · subst hji; exact hself _ _ _ H
    · have := ready_mono hj hji
      rw [h0.1] at this
      cases this
  | succ fuel ih =>
    intro listed a w hW hfree hwait hr H
    refine ⟨fun h => (by rw [h] at hr; cases hr), fun j hj => ?_⟩
    by_cases hji : j = i
    · subst hji; exact hself _ _ _ H
    · have h1 := step_mono hW (fun a' w' _ (h : wpAnyL P md ops ks W0 Q (fuel + 1) (listed.setIfInBounds i true) a' w') => h.2 j (ready_mono hj hji)) H
      obtain ⟨hjun, oj, hoj, hall⟩ := mem_ready.1 hj
      have hnot : ∀ e ∈ oj.after, Region.binds md e = true → e.on ≠ i := fun e he hb heq => by
        have h1 := hall e he hb
        have h0 := (mem_ready.1 hr).1
        rw [heq] at h1
        rcases Nat.lt_or_ge i listed.size with h' | h'
        · simp [h'] at h0 h1; rw [h0] at h1; cases h1
        · simp [Array.getElem?_eq_none h'] at h1
      have hcc : ki.isC = true → ∀ kj, ks[j]? = some kj → kj.isC = false := by
        intro hc kj hkj
        cases hk : kj.isC with
        | false => rfl
        | true =>
          obtain ⟨e, he, hb, hun, _⟩ := hwait hc j oj kj hoj hkj hk hji hjun
          rw [hall e he hb] at hun
          cases hun
      have h2 := lOp_put hoj (hfree j oj hoj hji hjun hnot) (fun cs b => hsel i oi cs b hi) (fun cs b => hsel j oj cs b hoj) hcc h1
      have hfree' : ∀ k ok, ops[k]? = some ok → k ≠ i → (listed.setIfInBounds j true).getD k true = false →
          (∀ e ∈ ok.after, Region.binds md e = true → e.on ≠ i) → oi.apart ops ok = true := fun k ok hk hki hun hno => by
        refine hfree k ok hk hki ?_ hno
        by_cases hjk : j = k
        · subst hjk; exact hjun
        · rw [getD_set_ne true hjk] at hun; exact hun
      have hwait' : ki.isC = true → Waits md ops ks (listed.setIfInBounds j true) i := by
        intro hc k ok kk hk hkk hkc hki' hun
        have hun' : listed.getD k true = false := by
          by_cases hjk : j = k
          · subst hjk; exact hjun
          · rw [getD_set_ne true hjk] at hun; exact hun
        obtain ⟨e, he, hb, hu, hec⟩ := hwait hc k ok kk hk hkk hkc hki' hun'
        refine ⟨e, he, hb, ?_, hec⟩
        by_cases hje : j = e.on
        · exfalso
          cases hkj : ks[j]? with
          | none =>
            have := lOp_mono hW (fun _ _ _ h => h) h2
            unfold lOp at this
            simp only [hoj, hkj] at this
          | some kj =>
            have h3 := hcc hc kj hkj
            rw [hec kj (by rw [← hje]; exact hkj)] at h3
            cases h3
        · rw [getD_set_ne false hje]; exact hu
      refine lOp_mono hW (fun a' w' hW' h3 => ih (listed.setIfInBounds j true) a' w' hW' hfree' hwait' (ready_mono hr (Ne.symm hji)) (step_mono hW' (fun a'' w'' _ h4 => ?_) h3)) h2
      rw [Array.setIfInBounds_comm _ _ hji]
      exact h4

/-- Checked ahead: every later call waits for a call that is not before 'k'. -/
def chainB (md : Region.Mode) (ops : Array Oper) (cs : List Bool) (k : Nat) : Bool :=
  (List.range ops.size).all fun j => decide (j ≤ k) || !(cs.getD j false) || match ops[j]? with
    | some oj => oj.after.any fun e => Region.binds md e && cs.getD e.on false && decide (k ≤ e.on)
    | none => true
def chains (md : Region.Mode) (ops : Array Oper) (cs : List Bool) : Bool := (List.range ops.size).all fun k => !(cs.getD k false) || chainB md ops cs k

theorem chain_waits {ks : List Kind} {k : Nat} {listed : Array Bool} (h : chainB md ops (ks.map Kind.isC) k = true) (hb : ∀ j, j < k → listed.getD j true = true) (ha : ∀ j, k ≤ j → listed.getD j false = false) : Waits md ops ks listed k := by
  intro j oj kj hj hkj hc hne hun
  unfold chainB at h
  rw [List.all_eq_true] at h
  have hlt := (Array.getElem?_eq_some_iff.1 hj).1
  have h1 := h j (List.mem_range.2 hlt)
  have hjk : ¬ j ≤ k := by
    intro hle
    have := hb j (by omega)
    rw [this] at hun
    cases hun
  have hcg : (ks.map Kind.isC).getD j false = true := by
    rw [List.getD_eq_getElem?_getD, List.getElem?_map, hkj]; exact hc
  rw [hcg, hj] at h1
  simp only [hjk, decide_false, Bool.not_true, Bool.or_false, Bool.false_or] at h1
  obtain ⟨e, he, hbb⟩ := Array.any_eq_true'.1 h1
  simp only [Bool.and_eq_true, decide_eq_true_eq] at hbb
  refine ⟨e, he, hbb.1.1, ha _ hbb.2, fun k' hk' => ?_⟩
  have := hbb.1.2
  rw [List.getD_eq_getElem?_getD, List.getElem?_map, hk'] at this
  exact this

theorem wpAnyL_lex {ks0 : List Kind} {Q : Act → World → Prop} (hs : Region.noSelect ops = true) (hch : ∀ k, k < ops.size → (ks0.map Kind.isC).getD k false = true → chainB md ops (ks0.map Kind.isC) k = true) : ∀ (l : List Oper) (ks : List Kind) (k : Nat) (listed : Array Bool) (a : Act) (w : World), S W0 w → (∀ j, l[j]? = ops[k + j]?) →
    (∀ j, ks[j]? = ks0[k + j]?) → (∀ j, j < k → listed.getD j true = true) → (∀ j, k ≤ j → listed.getD j false = false) → Region.lexFrom md ops l.length k listed = true → wpL P ops W0 Q l ks a w → wpAnyL P md ops ks0 W0 Q l.length listed a w
  | [], _, _, _, _, _, _, _, _, _, _, hB, h => ⟨by simpa [Region.lexFrom] using hB, h⟩
  | o :: l, [], _, _, _, _, _, _, _, _, _, _, h => h.elim
  | o :: l, ki :: ks, k, listed, a, w, hW, hl, hv, hb, ha, hB, h => by
    have h0 : ops[k]? = some o := by simpa using (hl 0).symm
    have hV0 : ks0[k]? = some ki := by simpa using (hv 0).symm
    have hkl : k < ops.size := (Array.getElem?_eq_some_iff.1 h0).1
    simp only [List.length_cons, Region.lexFrom, Bool.and_eq_true] at hB
    obtain ⟨⟨hr, hf⟩, hB'⟩ := hB
    refine wpAnyL_first h0 hV0 (Region.noSelect_spec hs) l.length listed a w hW (Region.free_spec h0 hf) (fun hc => chain_waits (hch k hkl (by rw [List.getD_eq_getElem?_getD, List.getElem?_map, hV0]; exact hc)) hb ha) (by simpa using hr) ?_
    refine step_mono hW (fun a' w' hW' h4 => ?_) h
    refine wpAnyL_lex hs hch l ks (k + 1) _ _ _ hW' (fun j => by have := hl (j + 1); simpa [Nat.add_assoc, Nat.add_comm 1 j] using this)
        (fun j => by have := hv (j + 1); simpa [Nat.add_assoc, Nat.add_comm 1 j] using this) (fun j hj => ?_) (fun j hj => ?_) hB' h4
    · by_cases hjk : k = j
      · subst hjk
        by_cases hsz : k < listed.size
        · simp [hsz]
        · simp [hsz]
      · rw [getD_set_ne true hjk]; exact hb j (by omega)
    · rw [getD_set_ne false (by omega : k ≠ j)]; exact ha j (by omega)

/-- **ONE WALK OF THE LEXICAL ORDER SERVES EVERY ORDER.** -/
theorem wp_region {id : Nat} {Q : Exit → Act → World → Prop} {a : Act} {w : World} {l : List Oper} (ks : List Kind) (hm : P.follows .mixedOrders = true) (hB : Region.lexB .any l.toArray = true) (hc : chains .any l.toArray (ks.map Kind.isC) = true)
    (h : wpL P l.toArray w.drew (fun a' w' => ∀ w'', S w' w'' → Q .normal a' w'') l ks a w.drew) : (Code.region id l.toArray true).wp P Q a w := by
  simp only [Region.lexB, Bool.and_eq_true] at hB
  refine wp_region_any hm (wpAny_of_loose (ks := ks) (W0 := w.drew) (Q := fun a' w' => ∀ w'', S w' w'' → Q .normal a' w'') (fun _ w' w'' hw' h => h w'' hw') _ _ _ _ _ (S.refl _) (S.refl _) ?_)
  have hch : ∀ k, k < l.toArray.size → (ks.map Kind.isC).getD k false = true → chainB .any l.toArray (ks.map Kind.isC) k = true := by
    intro k hk hcs
    unfold chains at hc
    rw [List.all_eq_true] at hc
    have := hc k (List.mem_range.2 hk)
    rw [hcs] at this
    simpa using this
  have := wpAnyL_lex (ks0 := ks) (W0 := w.drew) (md := .any) hB.1 hch l ks 0 (Array.replicate l.toArray.size false) a w.drew (S.refl _) (by simp) (by simp) (fun j hj => absurd hj (Nat.not_lt_zero j))
    (fun j _ => by by_cases hj : j < l.toArray.size <;> simp at hj <;> simp [hj]) (by simpa using hB.2) h
  simpa using this

end
end Go.Loose2

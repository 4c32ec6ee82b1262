/-
  The plain law of FnAccountsOneAccountPutInAnywhere (seat b6615116a): no Go in sight.
-/
namespace Go.Proofs.Qxb6615116a

theorem count_picked (p : Nat → Bool) (n : Nat) (ds : List Nat) (h : ds.Perm ((List.range n).filter p)) (i : Nat) (hi : i < n) : ds.count i = if p i then 1 else 0 := by
  rw [h.count_eq]
  by_cases hp : p i = true
  · rw [List.count_filter hp, if_pos hp, List.nodup_range.count, if_pos (List.mem_range.2 hi)]
  · rw [if_neg hp]
    exact List.count_eq_zero.2 fun hm => hp (List.mem_filter.1 hm).2

/-- One order for one set. -/
theorem uniq {R : Nat → Nat → Prop} : ∀ (xs ys : List Nat), xs.Perm ys → xs.Pairwise R → ys.Pairwise R → (∀ a ∈ xs, ∀ b ∈ xs, R a b → R b a → a = b) → xs = ys
  | [], ys, hp, _, _, _ => hp.nil_eq
  | x :: xs, [], hp, _, _, _ => by cases hp.eq_nil
  | x :: xs, y :: ys, hp, hx, hy, ha => by
    have e : x = y := by
      have h1 : y ∈ x :: xs := hp.symm.subset (List.mem_cons_self ..)
      have h2 : x ∈ y :: ys := hp.subset (List.mem_cons_self ..)
      rcases List.mem_cons.1 h1 with h | h
      · exact h.symm
      · rcases List.mem_cons.1 h2 with h' | h'
        · exact h'
        · exact ha x (List.mem_cons_self ..) y h1 ((List.pairwise_cons.1 hx).1 y h) ((List.pairwise_cons.1 hy).1 x h')
    subst e
    rw [uniq xs ys hp.cons_inv (List.pairwise_cons.1 hx).2 (List.pairwise_cons.1 hy).2 fun a h b h' => ha a (List.mem_cons_of_mem _ h) b (List.mem_cons_of_mem _ h')]

def sh (p x : Nat) : Nat := if p ≤ x then x + 1 else x

/-- The list that the law wants. -/
def wantL (gt : Nat → Bool) (p : Nat) : Bool → List Nat → List Nat
  | placed, [] => if placed then [] else [p]
  | placed, x :: xs => if !placed && gt x then p :: sh p x :: wantL gt p true xs else sh p x :: wantL gt p placed xs

theorem want_true (gt : Nat → Bool) (p : Nat) : ∀ xs, wantL gt p true xs = xs.map (sh p)
  | [] => rfl
  | x :: xs => by simp [wantL, want_true gt p xs]

theorem want_perm (gt : Nat → Bool) (p : Nat) : ∀ xs, (wantL gt p false xs).Perm (p :: xs.map (sh p))
  | [] => by simp [wantL]
  | x :: xs => by
    unfold wantL
    split
    · rw [want_true]; exact .refl _
    · exact ((want_perm gt p xs).cons _).trans (.swap ..)

theorem want_sorted {R : Nat → Nat → Prop} (gt : Nat → Bool) (p : Nat) : ∀ xs, (xs.map (sh p)).Pairwise R → (∀ x ∈ xs, gt x = true → R p (sh p x)) → (∀ x ∈ xs, gt x = false → R (sh p x) p) → (∀ a b, R p (sh p a) → R (sh p a) (sh p b) → R p (sh p b)) → (wantL gt p false xs).Pairwise R
  | [], _, _, _, _ => by simp [wantL]
  | x :: xs, h, h1, h2, h3 => by
    rw [List.map_cons, List.pairwise_cons] at h
    unfold wantL
    by_cases hg : gt x = true
    · rw [if_pos (by simp [hg]), want_true, List.pairwise_cons, List.pairwise_cons]
      refine ⟨fun a ha => ?_, h⟩
      have hp := h1 x (List.mem_cons_self ..) hg
      rcases List.mem_cons.1 ha with rfl | ha
      · exact hp
      · obtain ⟨b, hb, rfl⟩ := List.mem_map.1 ha
        exact h3 x b hp (h.1 _ ha)
    · rw [if_neg (by simp [hg]), List.pairwise_cons]
      refine ⟨fun a ha => ?_, want_sorted gt p xs h.2 (fun x h => h1 x (List.mem_cons_of_mem _ h)) (fun x h => h2 x (List.mem_cons_of_mem _ h)) h3⟩
      rcases List.mem_cons.1 ((want_perm gt p xs).subset ha) with rfl | ha
      · exact h2 x (List.mem_cons_self ..) (by simpa using hg)
      · exact h.1 a ha

theorem sh_inj (p : Nat) {a b : Nat} (h : sh p a = sh p b) : a = b := by
  unfold sh at h
  split at h <;> split at h <;> omega

theorem sh_ne (p a : Nat) : sh p a ≠ p := by
  unfold sh
  split <;> omega

/-- The weighing ones, with the account put in. -/
theorem put_perm (f g : Nat → Bool) (n p : Nat) (hp : p ≤ n) (hfg : ∀ x, x < n → g (sh p x) = f x) :
    ((List.range (n + 1)).filter g).Perm ((if g p then [p] else []) ++ ((List.range n).filter f).map (sh p)) := by
  refine (List.perm_ext_iff_of_nodup (List.nodup_range.filter _) ?_).2 fun x => ?_
  · rw [List.nodup_append]
    refine ⟨by split <;> simp, ?_, ?_⟩
    · exact List.Pairwise.map _ (fun a b h e => h (sh_inj p e)) (List.nodup_range.filter f)
    · intro a ha b hb e
      subst e
      split at ha
      · rw [List.mem_singleton] at ha
        obtain ⟨y, _, hy⟩ := List.mem_map.1 hb
        exact sh_ne p y (hy.trans ha)
      · cases ha
  · rw [List.mem_filter, List.mem_range, List.mem_append, List.mem_map]
    constructor
    · rintro ⟨h1, h2⟩
      by_cases e : x = p
      · subst e; left; rw [if_pos h2]; exact List.mem_singleton.2 rfl
      · right
        by_cases hlt : x < p
        · have : sh p x = x := by unfold sh; rw [if_neg (by omega)]
          refine ⟨x, List.mem_filter.2 ⟨List.mem_range.2 (by omega), ?_⟩, this⟩
          rw [← hfg x (by omega), this]; exact h2
        · have : sh p (x - 1) = x := by unfold sh; rw [if_pos (by omega)]; omega
          refine ⟨x - 1, List.mem_filter.2 ⟨List.mem_range.2 (by omega), ?_⟩, this⟩
          rw [← hfg (x - 1) (by omega), this]; exact h2
    · rintro (h | ⟨y, hy, rfl⟩)
      · split at h
        · next hg => rw [List.mem_singleton] at h; subst h; exact ⟨by omega, hg⟩
        · cases h
      · rw [List.mem_filter, List.mem_range] at hy
        exact ⟨by unfold sh; split <;> omega, by rw [hfg y hy.1]; exact hy.2⟩

theorem put_law (k1 k2 : Nat → List UInt8) (nmk : List UInt8) (f g : Nat → Bool) (n p : Nat) (hp : p ≤ n) (hfg : ∀ x, x < n → g (sh p x) = f x) (hk : ∀ x, x < n → k2 (sh p x) = k1 x) (hkp : k2 p = nmk)
    (hd : ∀ a, a < n → ∀ b, b < n → k1 a = k1 b → a = b) (hnk : ∀ a, a < n → k1 a ≠ nmk) (ds es : List Nat) (hds : ds.Perm ((List.range n).filter f)) (hes : es.Perm ((List.range (n + 1)).filter g))
    (sds : ds.Pairwise fun a b => ¬ k1 b < k1 a) (ses : es.Pairwise fun a b => ¬ k2 b < k2 a) : es = wantL (fun x => decide (nmk < k1 x)) p (!g p) ds := by
  have hm : ∀ x ∈ ds, x < n := fun x hx => List.mem_range.1 (List.mem_filter.1 (hds.subset hx)).1
  have hmap : (ds.map (sh p)).Pairwise fun a b => ¬ k2 b < k2 a := by
    rw [List.pairwise_map]
    refine List.Pairwise.imp_of_mem (fun {a b} ha hb h => ?_) sds
    rw [hk a (hm a ha), hk b (hm b hb)]; exact h
  have hperm : (wantL (fun x => decide (nmk < k1 x)) p (!g p) ds).Perm ((List.range (n + 1)).filter g) := by
    refine List.Perm.trans ?_ (put_perm f g n p hp hfg).symm
    cases hg : g p
    · simp only [Bool.not_false]
      rw [want_true]
      simpa using hds.map (sh p)
    · simp only [Bool.not_true]
      refine (want_perm _ p ds).trans ?_
      simpa using hds.map (sh p)
  have hsort : (wantL (fun x => decide (nmk < k1 x)) p (!g p) ds).Pairwise fun a b => ¬ k2 b < k2 a := by
    cases hg : g p
    · simp only [Bool.not_false]
      rw [want_true]; exact hmap
    · simp only [Bool.not_true]
      refine want_sorted _ p ds hmap (fun x hx h => ?_) (fun x hx h => ?_) (fun a b h1 h2 => ?_)
      · rw [hk x (hm x hx), hkp]
        exact List.lt_asymm (by simpa using h)
      · rw [hk x (hm x hx), hkp]
        simpa using h
      · rw [List.not_lt] at *
        exact List.le_trans h1 h2
  refine uniq es _ (hes.trans hperm.symm) ses hsort fun a ha b hb h1 h2 => ?_
  have e : k2 a = k2 b := List.le_antisymm (List.not_lt.1 h1) (List.not_lt.1 h2)
  have hl : ∀ x ∈ es, x < n + 1 := fun x hx => List.mem_range.1 (List.mem_filter.1 (hes.subset hx)).1
  have hc : ∀ x, x < n + 1 → x = p ∨ ∃ y, y < n ∧ sh p y = x := by
    intro x hx
    by_cases e : x = p
    · exact .inl e
    · right
      by_cases hlt : x < p
      · exact ⟨x, by omega, by unfold sh; rw [if_neg (by omega)]⟩
      · exact ⟨x - 1, by omega, by unfold sh; rw [if_pos (by omega)]; omega⟩
  rcases hc a (hl a ha) with rfl | ⟨x, hx, rfl⟩ <;> rcases hc b (hl b hb) with rfl | ⟨y, hy, rfl⟩
  · rfl
  · rw [hkp, hk y hy] at e; exact absurd e.symm (hnk y hy)
  · rw [hkp, hk x hx] at e; exact absurd e (hnk x hx)
  · rw [hk x hx, hk y hy] at e; rw [hd x hx y hy e]

end Go.Proofs.Qxb6615116a

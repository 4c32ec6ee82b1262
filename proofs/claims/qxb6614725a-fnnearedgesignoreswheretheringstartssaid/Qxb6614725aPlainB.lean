/-
  The plain law of the two statements on nearEdges (seat b6614725a), second half: what the unit box tells, what equal ends tell, and the law itself. No Go in sight.
-/
import Derived.Test.Qxb6614725aPlain
namespace Go.Proofs.Qxb6614725a
open Go Go.Flt Ieee

theorem cmp_none_nan {b c : Nat} {s : Bool} {t : Nat} (h : double.read b = .nan s t) : cmpO (some b) (some c) = none := by
  show (double.read b).order (double.read c) = none
  rw [h]
  cases double.read c <;> rfl

theorem signed_le {s : Bool} {m k n l : Nat} (h1 : signed s m k ≤ ((n * 2 ^ l : Nat) : Int)) (h2 : -((n * 2 ^ l : Nat) : Int) ≤ signed s m k) : m * 2 ^ k ≤ n * 2 ^ l := by
  cases s with
  | true => rw [signed_true] at *; omega
  | false => rw [signed_false'] at *; omega

theorem within_bd {x : Option Nat} {c c' : Nat} {n : Nat} {j : Int} {k : Nat} (hc : double.read c = .number false n j) (hn : Op.negFloat .f64 c = c') (hc' : double.read c' = .number true n j) (hk : j + n.log2 < k) (h : withinO x (K c) = true) : Bd k x := by
  have hK : K c = some c := ab_number hc
  unfold withinO at h
  rw [hK, Bool.and_eq_true] at h
  obtain ⟨h1, h2⟩ := h
  have hN : negO (some c) = some c' := by show some (Op.negFloat .f64 c) = _; rw [hn]
  rw [hN, geO_iff] at h1
  rw [leO_iff] at h2
  cases x with
  | none => rcases h1 with h | h <;> cases h
  | some b =>
    cases hr : double.read b with
    | nan s t => rw [cmp_none_nan hr] at h1; rcases h1 with h | h <;> cases h
    | infinity s =>
      rw [cmp_inf_num hr hc'] at h1
      rw [cmp_inf_num hr hc] at h2
      cases s
      · rcases h2 with h | h <;> cases h
      · rcases h1 with h | h <;> cases h
    | number s m e =>
      rw [cmp_num hr hc'] at h1
      rw [cmp_num hr hc] at h2
      simp only [Option.some.injEq] at h1 h2
      have h1 := cmp_ge h1
      have h2 := cmp_le h2
      rw [signed_true] at h1
      rw [signed_false'] at h2
      have h3 := signed_le h2 h1
      have hp := read_place hr
      by_cases hm : m = 0
      · exact ⟨b, s, m, e, rfl, hr, by omega, .inl hm⟩
      · have h4 := pow_cmp hm h3
        exact ⟨b, s, m, e, rfl, hr, by omega, .inr (by omega)⟩

/-- A vector all of whose parts are finite and below 2^k. -/
def Bd3 (k : Nat) (p : O3) : Prop := Bd k p.x ∧ Bd k p.y ∧ Bd k p.z
def Z3 (p : O3) : Prop := Z p.x ∧ Z p.y ∧ Z p.z

theorem boxed_one {p : O3} (h : boxedO p (K 4607182418800017408) = true) : Bd3 1 p := by
  unfold boxedO at h
  simp only [Bool.and_eq_true] at h
  have f : ∀ {x}, withinO x (K 4607182418800017408) = true → Bd 1 x := fun h => within_bd one_read (c' := 13830554455654793216) (by decide +kernel) (by decide +kernel) (by decide +kernel) h
  exact ⟨f h.1.1, f h.1.2, f h.2⟩
theorem boxed_big {p : O3} (h : boxedO p (K 6103021453049119613) = true) : Bd3 333 p := by
  unfold boxedO at h
  simp only [Bool.and_eq_true] at h
  have f : ∀ {x}, withinO x (K 6103021453049119613) = true → Bd 333 x := fun h => within_bd (c := 6103021453049119613) (n := 5147557589468029) (j := 280) (c' := 6103021453049119613 + 9223372036854775808) (by decide +kernel) (by decide +kernel) (by decide +kernel) (by decide +kernel) h
  exact ⟨f h.1.1, f h.1.2, f h.2⟩

theorem eq_same {k l : Nat} {x y : Option Nat} (hx : Bd k x) (hy : Bd l y) (h : eqO x y = true) : (Z x ∧ Z y) ∨ ∃ a b s m i, x = some a ∧ y = some b ∧ double.read a = .number s m i ∧ double.read b = .number s m i ∧ m ≠ 0 := by
  obtain ⟨a, s, m, i, rfl, ha, _, _⟩ := hx
  obtain ⟨b, t, n, j, rfl, hb, _, _⟩ := hy
  rw [eqO_iff, cmp_num ha hb] at h
  injection h with h
  have h := Int.compare_eq_eq.1 h
  have hn : m * 2 ^ (i - min i j).toNat = n * 2 ^ (j - min i j).toNat := by rw [← signed_abs s, ← signed_abs t, h]
  have p1 := Nat.two_pow_pos (i - min i j).toNat
  have p2 := Nat.two_pow_pos (j - min i j).toNat
  by_cases hm : m = 0
  · left
    have : n = 0 := by
      rw [hm, Nat.zero_mul] at hn
      rcases Nat.mul_eq_zero.1 hn.symm with h | h
      · exact h
      · omega
    subst hm this
    exact ⟨⟨a, s, i, rfl, ha⟩, ⟨b, t, j, rfl, hb⟩⟩
  · right
    have hn0 : n ≠ 0 := by
      intro h0
      rw [h0, Nat.zero_mul] at hn
      rcases Nat.mul_eq_zero.1 hn with h | h
      · exact hm h
      · omega
    have hst : s = t := by
      cases s <;> cases t
      · rfl
      · rw [signed_true, signed_false'] at h
        have := Nat.mul_pos (Nat.pos_of_ne_zero hm) p1
        omega
      · rw [signed_true, signed_false'] at h
        have := Nat.mul_pos (Nat.pos_of_ne_zero hm) p1
        omega
      · rfl
    have ca := read_place ha
    have cb := read_place hb
    have hij : i = j := by
      rcases Int.lt_trichotomy i j with hlt | he | hgt
      · exfalso
        rw [show min i j = i by omega, show (i - i).toNat = 0 by omega, Nat.pow_zero, Nat.mul_one] at hn
        have h2 : 2 ^ 1 ≤ 2 ^ (j - i).toNat := Nat.pow_le_pow_right (by omega) (by omega)
        have h3 : n * 2 ^ 1 ≤ n * 2 ^ (j - i).toNat := Nat.mul_le_mul_left _ h2
        omega
      · exact he
      · exfalso
        rw [show min i j = j by omega, show (j - j).toNat = 0 by omega, Nat.pow_zero, Nat.mul_one] at hn
        have h2 : 2 ^ 1 ≤ 2 ^ (i - j).toNat := Nat.pow_le_pow_right (by omega) (by omega)
        have h3 : m * 2 ^ 1 ≤ m * 2 ^ (i - j).toNat := Nat.mul_le_mul_left _ h2
        omega
    subst hij hst
    have hmn : m = n := by
      rw [show (i - min i i).toNat = 0 by omega, Nat.pow_zero, Nat.mul_one, Nat.mul_one] at hn
      exact hn
    subst hmn
    exact ⟨a, b, s, m, i, rfl, rfl, ha, hb, hm⟩

/-- x1 = x2, y1 = y2: x1*y2 - y1*x2 is nought. -/
theorem cross_part {x1 x2 y1 y2 : Option Nat} (h1 : Bd 1 x1) (h2 : Bd 1 x2) (h3 : Bd 1 y1) (h4 : Bd 1 y2) (hx : eqO x1 x2 = true) (hy : eqO y1 y2 = true) : Z (fO .sub (fO .mul x1 y2) (fO .mul y1 x2)) := by
  rcases eq_same h1 h2 hx with ⟨z1, z2⟩ | ⟨a, b, s, m, i, e1, e2, ra, rb, _⟩
  · exact sub_z (mul_z z1 h4 (by omega)) (z_mul h3 z2 (by omega))
  · rcases eq_same h3 h4 hy with ⟨z3, z4⟩ | ⟨c, d, t, n, j, e3, e4, rc, rd, _⟩
    · exact sub_z (z_mul h1 z4 (by omega)) (mul_z z3 h2 (by omega))
    · have hm := mul_bd h1 h4 (by omega)
      have : fO .mul y1 x2 = fO .mul x1 y2 := by
        rw [e1, e2, e3, e4, fO_mul rc rb, fO_mul ra rd, Bool.xor_comm, Nat.mul_comm, Int.add_comm]
      rw [this]
      exact sub_self_z hm

theorem cross_z {p q : O3} (hp : Bd3 1 p) (hq : Bd3 1 q) (h : sameO p q = true) : Z3 (crossO p q) := by
  unfold sameO at h
  simp only [Bool.and_eq_true] at h
  obtain ⟨⟨hx, hy⟩, hz⟩ := h
  exact ⟨cross_part hp.2.1 hq.2.1 hp.2.2 hq.2.2 hy hz, cross_part hp.2.2 hq.2.2 hp.1 hq.1 hz hx, cross_part hp.1 hq.1 hp.2.1 hq.2.1 hx hy⟩

theorem norm_z {p : O3} (h : Z3 p) : normO p = some 0 := by
  unfold normO dotO
  rw [sq_z h.1, sq_z h.2.1, sq_z h.2.2, add_zero_zero, add_zero_zero, sqrt_zero]

/-- Not below nought, or a zero whose sign is set. -/
def Qd (k : Nat) (o : Option Nat) : Prop := ∃ b s m e, o = some b ∧ double.read b = .number s m e ∧ (-1074 ≤ e ∧ e ≤ k) ∧ (m = 0 ∨ e + m.log2 < k) ∧ (s = true → m = 0)
theorem qd_of {k : Nat} {o : Option Nat} (h : BdP k o) : Qd k o := let ⟨b, m, e, h1, h2, h3, h4⟩ := h; ⟨b, false, m, e, h1, h2, h3, h4, by simp⟩

theorem total_q {s t : Bool} {m n : Nat} {i j : Int} (h1 : s = true → m = 0) (h2 : t = true → n = 0) : 0 ≤ total s m i t n j := by
  have f : ∀ {s : Bool} {m k : Nat}, (s = true → m = 0) → 0 ≤ signed s m k := by
    intro s m k h
    cases s
    · exact signed_false m k
    · rw [h rfl, signed_zero]; omega
  have a := f (k := (i - min i j).toNat) h1
  have b := f (k := (j - min i j).toNat) h2
  unfold total
  omega

theorem add_q {k : Nat} {x y : Option Nat} (hx : Qd k x) (hy : Qd k y) (hk : k + 1 ≤ 1022) : Qd (k + 2) (fO .add x y) ∧ (BdP k x ∨ BdP k y → BdP (k + 2) (fO .add x y)) := by
  obtain ⟨a, s, m, i, rfl, ha, hi, h1, g1⟩ := hx
  obtain ⟨b, t, n, j, rfl, hb, hj, h2, g2⟩ := hy
  have hq := total_q (i := i) (j := j) g1 g2
  obtain ⟨p, e, h3, h4, h5, h6, _⟩ := nearest_bd (if total s m i t n j = 0 then s && t else total s m i t n j < 0) _ (min i j) (k + 1) hk (total_lt h1 h2 (by omega))
  refine ⟨⟨_, _, p, e, fO_add ha hb, h3, h4, h5, ?_⟩, ?_⟩
  · intro hs
    by_cases h0 : total s m i t n j = 0
    · exact h6 (by rw [h0]; rfl)
    · rw [if_neg h0, decide_eq_true_eq] at hs
      omega
  · intro hor
    have hst : (s && t) = false := by
      rcases hor with ⟨c, n', e', hc, hr, _⟩ | ⟨c, n', e', hc, hr, _⟩
      · injection hc with hc
        subst hc
        rw [ha] at hr
        injection hr with hr _ _
        rw [hr]; rfl
      · injection hc with hc
        subst hc
        rw [hb] at hr
        injection hr with hr _ _
        rw [hr]; simp
    have hs : (if total s m i t n j = 0 then s && t else decide (total s m i t n j < 0)) = false := by
      split
      · exact hst
      · rw [decide_eq_false_iff_not]; omega
    rw [hs] at h3
    exact ⟨_, p, e, (fO_add ha hb).trans (by rw [hs]), h3, h4, h5⟩

theorem Qd.mono {k l : Nat} {o : Option Nat} (h : Qd k o) (hl : k ≤ l) : Qd l o := let ⟨b, s, m, e, h1, h2, h3, h4, h5⟩ := h; ⟨b, s, m, e, h1, h2, by omega, by omega, h5⟩

theorem mul_same {x y : Option Nat} (hx : Bd 1 x) (hy : Bd 1 y) (h : eqO x y = true) : Qd 3 (fO .mul x y) ∧ (BdP 3 (fO .mul x y) ∨ Z x) := by
  rcases eq_same hx hy h with ⟨z1, z2⟩ | ⟨a, b, s, m, i, e1, e2, ra, rb, _⟩
  · obtain ⟨a, s, m, i, e1, ha, _, h1⟩ := hx
    obtain ⟨b, t, n, j, e2, hb, _, h2⟩ := hy
    obtain ⟨c, p, e, h3, h4, h5, h6, h7⟩ := mul_core (K := 1) (L := 1) ha hb h1 h2 (by omega)
    subst e1 e2
    obtain ⟨a', s', i', ea, ra⟩ := z1
    injection ea with ea
    subst ea
    have hm : m = 0 := by rw [ha] at ra; injection ra
    exact ⟨⟨c, _, p, e, h3, h4, h5, h6, fun _ => h7 (.inl hm)⟩, .inr ⟨a, s', i', rfl, ra⟩⟩
  · have : fO .mul x y = fO .mul x x := by rw [e1, e2, fO_mul ra rb, fO_mul ra ra]
    rw [this]
    have := sq_bdp hx (by omega)
    exact ⟨qd_of this, .inl this⟩

theorem dot_same {p q : O3} (hp : Bd3 1 p) (hq : Bd3 1 q) (h : sameO p q = true) : BdP 7 (dotO p q) ∨ Z3 p := by
  unfold sameO at h
  simp only [Bool.and_eq_true] at h
  obtain ⟨⟨hx, hy⟩, hz⟩ := h
  obtain ⟨x1, x2⟩ := mul_same hp.1 hq.1 hx
  obtain ⟨y1, y2⟩ := mul_same hp.2.1 hq.2.1 hy
  obtain ⟨z1, z2⟩ := mul_same hp.2.2 hq.2.2 hz
  obtain ⟨s1, s2⟩ := add_q x1 y1 (by omega)
  obtain ⟨_, t2⟩ := add_q s1 (z1.mono (l := 5) (by omega)) (by omega)
  rcases x2 with hb | zx
  · exact .inl (t2 (.inl (s2 (.inl hb))))
  · rcases y2 with hb | zy
    · exact .inl (t2 (.inl (s2 (.inr hb))))
    · rcases z2 with hb | zz
      · exact .inl (t2 (.inr (hb.mono (by omega))))
      · exact .inr ⟨zx, zy, zz⟩

theorem dot_lt {p q : O3} {c : Nat} (h : dotO p q = some c) : c < two64 := fO_lt h

theorem sign_of_read {b : Nat} {m : Nat} {e : Int} (h : double.read b = .number false m e) (hl : b < two64) : b < 9223372036854775808 := by
  unfold Format.read at h
  simp only [d_least, d_binade, d_inf, d_sign] at h
  have hs : (b / 9223372036854775808 % 2 == 1) = false := by
    split at h
    · injection h
    · split at h
      · injection h
      · split at h <;> cases h
  rw [beq_eq_false_iff_ne] at hs
  unfold two64 at hl
  omega

theorem atan2_zero {k : Nat} {x : Option Nat} (hx : BdP k x) (hl : ∀ c, x = some c → c < two64) : atan2O (some 0) x = some 0 := by
  have hs : signO x = false := by
    obtain ⟨b, m, e, rfl, hr, _⟩ := hx
    have := sign_of_read hr (hl b rfl)
    show decide (9223372036854775808 ≤ b) = false
    rw [decide_eq_false_iff_not]; omega
  have hk : K 0 = some 0 := by decide +kernel
  have h1 : eqO (some 0) (some 0) = true := by decide +kernel
  unfold atan2O
  rw [hk, h1, Flt.eq_self hx.bd, ge_zero hx zero_z, hs]
  rw [if_neg (by simp), if_pos rfl, if_pos (by simp)]
  decide +kernel

theorem angle_same {p q : O3} (hp : Bd3 1 p) (hq : Bd3 1 q) (h : sameO p q = true) : angleO p q = some 0 ∨ Z3 p := by
  rcases dot_same hp hq h with hd | hz
  · left
    unfold angleO
    rw [norm_z (cross_z hp hq h)]
    exact atan2_zero hd fun c hc => dot_lt hc
  · exact .inr hz

theorem dot_bd {k l : Nat} {p q : O3} (hp : Bd3 k p) (hq : Bd3 l q) (hk : k + l + 6 ≤ 1022) : Bd (k + l + 5) (dotO p q) := by
  have a := add_bd (mul_bd hp.1 hq.1 (by omega)) (mul_bd hp.2.1 hq.2.1 (by omega)) (by omega)
  exact add_bd a ((mul_bd hp.2.2 hq.2.2 (by omega)).mono (by omega)) (by omega)
theorem self_bdp {k : Nat} {p : O3} (hp : Bd3 k p) (hk : k + k + 6 ≤ 1022) : BdP (k + k + 5) (dotO p p) := by
  have a := add_bdp (sq_bdp hp.1 (by omega)) (sq_bdp hp.2.1 (by omega)) (by omega)
  exact add_bdp a ((sq_bdp hp.2.2 (by omega)).mono (by omega)) (by omega)
theorem cross_bd {k l : Nat} {p q : O3} (hp : Bd3 k p) (hq : Bd3 l q) (hk : k + l + 4 ≤ 1022) : Bd3 (k + l + 3) (crossO p q) :=
  ⟨sub_bd (mul_bd hp.2.1 hq.2.2 (by omega)) (mul_bd hp.2.2 hq.2.1 (by omega)) (by omega),
   sub_bd (mul_bd hp.2.2 hq.1 (by omega)) (mul_bd hp.1 hq.2.2 (by omega)) (by omega),
   sub_bd (mul_bd hp.1 hq.2.1 (by omega)) (mul_bd hp.2.1 hq.1 (by omega)) (by omega)⟩
theorem norm_bdp {k : Nat} {p : O3} (hp : Bd3 k p) (hk : k + k + 6 ≤ 1022) : BdP (k + k + 6) (normO p) :=
  (sqrt_bdp (self_bdp hp hk) (by omega) (by omega)).mono (by omega)

theorem angle_nn {p q : O3} (hp : Bd3 1 p) (hq : Bd3 1 q) : NN (angleO p q) :=
  atan2_nn (norm_bdp (cross_bd hp hq (by omega)) (by omega)).bd (dot_bd hp hq (by omega))

theorem dot_z {k : Nat} {p q : O3} (hp : Z3 p) (hq : Bd3 k q) (hk : k ≤ 1022) : Z (dotO p q) :=
  add_z (add_z (mul_z hp.1 hq.1 hk) (mul_z hp.2.1 hq.2.1 hk)) (mul_z hp.2.2 hq.2.2 hk)

theorem slack_z {m p : O3} (hm : Bd3 333 m) (hp : Z3 p) : Z (slackO m p) := by
  unfold slackO
  rw [norm_z hp]
  exact z_mul (mul_bd (bd_const 1 13614948676314551830 (by decide +kernel)) (norm_bdp hm (by omega)).bd (by omega)) zero_z (by omega)

/-- At the centre every arc holds it. -/
theorem arc_z {p a b m : O3} (hp : Z3 p) (ha : Bd3 1 a) (hb : Bd3 1 b) (hm : Bd3 333 m) : onArcO p a b m = true := by
  unfold onArcO
  rw [ge_zz (dot_z hp (cross_bd hm ha (by omega)) (by omega)) (slack_z hm hp), ge_zz (dot_z hp (cross_bd hb hm (by omega)) (by omega)) (slack_z hm hp)]
  rfl

theorem abs_z {x : Option Nat} (h : Z x) : absO x = some 0 := by
  obtain ⟨b, s, e, rfl, hr⟩ := h
  unfold Format.read at hr
  simp only [d_least, d_binade, d_inf, d_sign] at hr
  show some (b % 9223372036854775808) = some 0
  congr 1
  generalize b % 9223372036854775808 = r at *
  split at hr
  · injection hr
  · split at hr
    · injection hr with _ h _; omega
    · split at hr <;> cases hr

theorem rm_read : double.read 4391576639459776022 = .number false 5070602400912918 (-100) := by decide +kernel

theorem z_of_eq {k : Nat} {x : Option Nat} (hx : Bd k x) (h : eqO x (K 0) = true) : Z x := by
  have h0 : double.read 0 = .number false 0 (-1074) := by decide +kernel
  have hk : K 0 = some 0 := ab_number h0
  rw [hk] at h
  rcases eq_same hx (y := some 0) (l := 0) ⟨0, false, 0, -1074, rfl, h0, by omega, .inl rfl⟩ h with ⟨z, _⟩ | ⟨a, b, s, m, i, _, hb, _, rb, hm⟩
  · exact z
  · injection hb with hb
    subst hb
    rw [h0] at rb
    injection rb with _ rb _
    exact absurd rb.symm hm

/-- The first test, and the distance upon the arc. -/
theorem arc_dist {m : O3} {d : Option Nat} (hm : Bd3 333 m) (hg : gtO (dotO m m) (K 0) = true) (hd : Z d) : asinO (minO (fO .quo (absO d) (normO m)) (K 4607182418800017408)) = some 0 := by
  have hb := self_bdp hm (by omega)
  have hq : fO .quo (some 0) (normO m) = some 0 := by
    obtain ⟨c, n, e, hc, hr, hi, hbd⟩ := hb
    obtain ⟨c', hc', hcs⟩ := pos_cases (x := dotO m m) (by rw [hc]; exact ⟨c, rfl, ab_number hr⟩) hg
    rw [hc] at hc'
    injection hc' with hc'
    subst hc'
    have hn : n ≠ 0 := by
      rcases hcs with ⟨m', e', hr', hm'⟩ | hr'
      · rw [hr] at hr'; injection hr' with _ h _; rw [h]; exact hm'
      · rw [hr] at hr'; cases hr'
    obtain ⟨q, p, e', h1, h2, _, h4, _⟩ := sqrt_pos hr hi.1 hn (hbd.resolve_left hn) (by omega) (by omega)
    unfold normO
    rw [hc, h1]
    exact zero_quo h2 h4
  rw [abs_z hd, hq]
  decide +kernel

theorem nonpos_of {s : Bool} {m k : Nat} (h : signed s m k ≤ 0) (l : Nat) : signed s m l ≤ 0 := by
  by_cases hm : m = 0
  · rw [hm, signed_zero]; omega
  · cases s with
    | false => have := signed_pos k hm; omega
    | true => rw [signed_true]; omega

theorem le_rm {q : Nat} {s : Bool} {m k : Nat} {e : Int} (hr : double.read q = .number s m e) (h : signed s m k ≤ 0) : leO (some q) (K 4391576639459776022) = true := by
  rw [show K 4391576639459776022 = some 4391576639459776022 from ab_number rm_read, leO_iff, cmp_num hr rm_read]
  left
  have h1 := nonpos_of h (e - min e (-100)).toNat
  have h2 := signed_pos (m := 5070602400912918) (-100 - min e (-100)).toNat (by omega)
  rw [Int.compare_eq_lt.2 (by omega)]
theorem inf_rm {q : Nat} (hr : double.read q = .infinity true) : leO (some q) (K 4391576639459776022) = true := by
  rw [show K 4391576639459776022 = some 4391576639459776022 from ab_number rm_read, leO_iff, cmp_inf_num hr rm_read]
  exact .inl rfl
theorem zero_rm : leO (some 0) (K 4391576639459776022) = true := by decide +kernel

theorem min_zero_left {x : Option Nat} (hx : NN x) : leO (minO (some 0) x) (K 4391576639459776022) = true := by
  have h0 : double.read 0 = .number false 0 (-1074) := by decide +kernel
  obtain ⟨q, rfl, hq⟩ := hx.cases
  have hm : minO (some 0) (some q) = match cmpO (some 0) (some q) with | none => none | some .lt => some 0 | some .gt => some q | some .eq => some (if (double.read 0).neg then 0 else q) := rfl
  rw [hm]
  rcases hq with ⟨s, m, e, hr⟩ | ⟨s, hr⟩
  · rw [cmp_num h0 hr, signed_zero]
    cases hc : compare 0 (signed s m (e - min (-1074) e).toNat)
    · exact zero_rm
    · have := Int.compare_eq_eq.1 hc
      dsimp only
      split
      · exact zero_rm
      · exact le_rm hr (by rw [← this]; exact Int.le_refl 0)
    · have := Int.compare_eq_gt.1 hc
      exact le_rm hr (Int.le_of_lt this)
  · rw [cmp_num_inf h0 hr]
    cases s
    · exact zero_rm
    · exact inf_rm hr
theorem min_zero_right {x : Option Nat} (hx : NN x) : leO (minO x (some 0)) (K 4391576639459776022) = true := by
  have h0 : double.read 0 = .number false 0 (-1074) := by decide +kernel
  obtain ⟨q, rfl, hq⟩ := hx.cases
  have hm : minO (some q) (some 0) = match cmpO (some q) (some 0) with | none => none | some .lt => some q | some .gt => some 0 | some .eq => some (if (double.read q).neg then q else 0) := rfl
  rw [hm]
  rcases hq with ⟨s, m, e, hr⟩ | ⟨s, hr⟩
  · rw [cmp_num hr h0, signed_zero]
    cases hc : compare (signed s m (e - min e (-1074)).toNat) 0
    · have := Int.compare_eq_lt.1 hc
      exact le_rm hr (Int.le_of_lt this)
    · have := Int.compare_eq_eq.1 hc
      dsimp only
      split
      · exact le_rm hr (by rw [this]; exact Int.le_refl 0)
      · exact zero_rm
    · exact zero_rm
  · rw [cmp_inf_num hr h0]
    cases s
    · exact zero_rm
    · exact inf_rm hr

/-- An end of an edge, in the unit box, square to its finite normal, is near that edge. -/
theorem plain {p a b m : O3} (hp : boxedO p (K 4607182418800017408) = true) (h : hit1O p a b m = true) : near1O p a b m = true := by
  unfold hit1O at h
  simp only [Bool.and_eq_true, Bool.or_eq_true] at h
  obtain ⟨ha, hb, hm, hg, hd, hs⟩ := h
  have hp := boxed_one hp
  have ha := boxed_one ha
  have hb := boxed_one hb
  have hm := boxed_big hm
  have hz : Z (dotO p m) := z_of_eq (dot_bd hp hm (by omega)) hd
  unfold near1O
  rw [Bool.and_eq_true]
  constructor
  · rw [sq_z hz]
    exact le_zero zero_z (mul_bdp (bdp_const 1 4176042245715903136 5708990770823840 (-148) (by decide +kernel) (by decide) (by decide +kernel)) (self_bdp hm (by omega)) (by omega))
  · unfold edgeDistO
    split
    · rw [arc_dist hm hg hz]
      exact zero_rm
    · rename_i hn
      have hnz : ¬ Z3 p := fun h => hn (arc_z h ha hb hm)
      rcases hs with hs | hs
      · rw [(angle_same hp ha hs).resolve_right hnz]
        exact min_zero_left (angle_nn hp hb)
      · rw [(angle_same hp hb hs).resolve_right hnz]
        exact min_zero_right (angle_nn hp ha)

theorem plainK (vs ns : List V3) (p : V3) (k : Nat) (h1 : boxedO p.ab (ab 4607182418800017408) = true) (h2 : hitK vs ns p k = true) : nearK vs ns p k = true := plain h1 h2

end Go.Proofs.Qxb6614725a

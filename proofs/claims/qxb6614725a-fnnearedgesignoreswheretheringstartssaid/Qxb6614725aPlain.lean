/-
  The plain law of the two statements on nearEdges (seat b6614725a): an end of an edge, in the unit box, square to its finite normal, is near that edge. No Go in sight.
-/
import Derived.Test.Qxb6614725aHit
import Derived.Test.Qxb6614725aNum
namespace Go.Proofs.Qxb6614725a
open Go Go.Flt Ieee

/-- Every word's place and magnitude. -/
theorem read_place {b : Nat} {s : Bool} {m : Nat} {e : Int} (h : double.read b = .number s m e) : -1074 ≤ e ∧ m < 9007199254740992 ∧ (e = -1074 ∨ 4503599627370496 ≤ m) ∧ e ≤ 1000 := by
  unfold Format.read at h
  simp only [d_least, d_binade, d_inf, d_sign] at h
  generalize b % 9223372036854775808 = r at h
  split at h
  · injection h with _ h2 h3; omega
  · split at h
    · injection h with _ h2 h3
      have : r / 4503599627370496 ≤ 2047 := by omega
      omega
    · split at h <;> cases h

/-- No NaN. -/
def NN (o : Option Nat) : Prop := ∃ c, o = some c ∧ ab c = some c

theorem ab_number {b : Nat} {s : Bool} {m : Nat} {e : Int} (h : double.read b = .number s m e) : ab b = some b := by
  unfold ab; rw [h]; rfl
theorem ab_infinity {b : Nat} {s : Bool} (h : double.read b = .infinity s) : ab b = some b := by
  unfold ab; rw [h]; rfl
theorem Bd_nn {K : Nat} {o : Option Nat} (h : Bd K o) : NN o := let ⟨b, _, _, _, h1, h2, _⟩ := h; ⟨b, h1, ab_number h2⟩

theorem NN.cases {o : Option Nat} (h : NN o) : ∃ b, o = some b ∧ ((∃ s m e, double.read b = .number s m e) ∨ ∃ s, double.read b = .infinity s) := by
  obtain ⟨b, rfl, h⟩ := h
  refine ⟨b, rfl, ?_⟩
  unfold ab at h
  cases hr : double.read b with
  | number s m e => exact .inl ⟨s, m, e, rfl⟩
  | infinity s => exact .inr ⟨s, rfl⟩
  | nan s t => rw [hr] at h; cases h

theorem fO_lt {op : BinOp} {x y : Option Nat} {c : Nat} (h : fO op x y = some c) : c < two64 := by
  unfold fO at h
  cases x with
  | none => cases h
  | some a =>
    cases y with
    | none => cases h
    | some b =>
      have := floatBits_wf (k := .f64) (show floatBits op .f64 a b = some c from h)
      simpa [Lit.wf] using this

/-- A closed check that a constant is a finite number below 2^k. -/
def bdB (k : Nat) (c : Nat) : Bool := match double.read c with
  | .number _ m e => decide (-1074 ≤ e) && decide (e ≤ k) && (m == 0 || decide (e + m.log2 < k))
  | _ => false
theorem bd_const (k c : Nat) (h : bdB k c = true) : Bd k (K c) := by
  unfold bdB at h
  cases hr : double.read c with
  | number s m e =>
    rw [hr] at h
    simp only [Bool.and_eq_true, Bool.or_eq_true, decide_eq_true_eq, beq_iff_eq] at h
    exact ⟨c, s, m, e, ab_number hr, hr, ⟨h.1.1, h.1.2⟩, h.2⟩
  | infinity s => rw [hr] at h; cases h
  | nan s t => rw [hr] at h; cases h
def lbB (k : Nat) (c : Nat) : Bool := match double.read c with
  | .number false m e => decide (-1074 ≤ e) && decide (e ≤ k) && decide (m ≠ 0) && decide (0 ≤ e + m.log2) && decide (e + m.log2 < k)
  | _ => false
theorem lb_const (k c : Nat) (h : lbB k c = true) : Lb k (K c) := by
  unfold lbB at h
  cases hr : double.read c with
  | number s m e =>
    cases s with
    | false =>
      rw [hr] at h
      simp only [Bool.and_eq_true, decide_eq_true_eq] at h
      exact ⟨c, m, e, ab_number hr, hr, ⟨h.1.1.1.1, h.1.1.1.2⟩, h.1.1.2, h.1.2, h.2⟩
    | true => rw [hr] at h; cases h
  | infinity s => rw [hr] at h; cases h
  | nan s t => rw [hr] at h; cases h

/-- xatan of a finite number is finite. -/
theorem xatan_bd {x : Option Nat} (hx : Bd 5 x) : Bd 78 (xatanO x) := by
  have hz : BdP 11 (fO .mul x x) := sq_bdp hx (by omega)
  have n0 : Bd 13 (fO .mul (K 13829429103926125972) (fO .mul x x)) := mul_bd (bd_const 1 _ (by decide +kernel)) hz.bd (by omega)
  have n1 := add_bd n0 ((bd_const 13 13848613196940411002 (by decide +kernel))) (by omega)
  have n2 := mul_bd n1 hz.bd (by omega)
  have n3 := add_bd n2 ((bd_const 27 13858350711815275123 (by decide +kernel))) (by omega)
  have n4 := mul_bd n3 hz.bd (by omega)
  have n5 := add_bd n4 ((bd_const 41 13861719834326579749 (by decide +kernel))) (by omega)
  have n6 := mul_bd n5 hz.bd (by omega)
  have n7 := add_bd n6 ((bd_const 55 13857635882265799822 (by decide +kernel))) (by omega)
  have n8 := mul_bd hz.bd n7 (by omega)
  have d0 := add_lb hz ((lb_const 11 4627690253511319612 (by decide +kernel))) (by omega)
  have d1 := mul_bdp d0.bdp hz (by omega)
  have d2 := add_lb d1 ((lb_const 25 4640010388282866213 (by decide +kernel))) (by omega)
  have d3 := mul_bdp d2.bdp hz (by omega)
  have d4 := add_lb d3 ((lb_const 39 4646322940342877755 (by decide +kernel))) (by omega)
  have d5 := mul_bdp d4.bdp hz (by omega)
  have d6 := add_lb d5 ((lb_const 53 4647246694406179306 (by decide +kernel))) (by omega)
  have d7 := mul_bdp d6.bdp hz (by omega)
  have d8 := add_lb d7 ((lb_const 67 4641049159275471596 (by decide +kernel))) (by omega)
  have q := quo_bd n8 d8 (by omega)
  have r := mul_bd hx q (by omega)
  exact add_bd r (hx.mono (by omega)) (by omega)

/-! ### What a comparison tells -/
theorem cmp_inf_num {a b : Nat} {s t : Bool} {n : Nat} {j : Int} (ha : double.read a = .infinity s) (hb : double.read b = .number t n j) : cmpO (some a) (some b) = some (if s then .lt else .gt) := by
  show (double.read a).order (double.read b) = _
  rw [ha, hb]; rfl
theorem cmp_num_inf {a b : Nat} {s t : Bool} {n : Nat} {j : Int} (ha : double.read a = .number t n j) (hb : double.read b = .infinity s) : cmpO (some a) (some b) = some (if s then .gt else .lt) := by
  show (double.read a).order (double.read b) = _
  rw [ha, hb]; rfl

theorem pow_cmp {m n : Nat} {i j : Int} (hm : m ≠ 0) (h : m * 2 ^ (i - min i j).toNat ≤ n * 2 ^ (j - min i j).toNat) : i + m.log2 ≤ j + n.log2 := by
  have hn : n ≠ 0 := by
    intro h0
    rw [h0, Nat.zero_mul] at h
    have : 0 < m * 2 ^ (i - min i j).toNat := Nat.mul_pos (by omega) (Nat.two_pow_pos _)
    omega
  have h1 : 2 ^ (m.log2 + (i - min i j).toNat) ≤ m * 2 ^ (i - min i j).toNat := by rw [Nat.pow_add]; exact Nat.mul_le_mul_right _ (log2_bounds hm).1
  have h2 : n * 2 ^ (j - min i j).toNat < 2 ^ (n.log2 + 1 + (j - min i j).toNat) := by rw [Nat.pow_add]; exact Nat.mul_lt_mul_of_pos_right (log2_bounds hn).2 (Nat.two_pow_pos _)
  have h3 : 2 ^ (m.log2 + (i - min i j).toNat) < 2 ^ (n.log2 + 1 + (j - min i j).toNat) := by omega
  have := (Nat.pow_lt_pow_iff_right (by omega : 1 < 2)).1 h3
  omega

theorem signed_true (m k : Nat) : signed true m k = -((m * 2 ^ k : Nat) : Int) := by unfold signed; rw [Nat.shiftLeft_eq]; rfl
theorem signed_false' (m k : Nat) : signed false m k = ((m * 2 ^ k : Nat) : Int) := by unfold signed; rw [Nat.shiftLeft_eq]; rfl

theorem leO_iff {x y : Option Nat} : leO x y = true ↔ cmpO x y = some .lt ∨ cmpO x y = some .eq := by unfold leO; simp
theorem geO_iff {x y : Option Nat} : geO x y = true ↔ cmpO x y = some .gt ∨ cmpO x y = some .eq := by unfold geO; simp
theorem gtO_iff {x y : Option Nat} : gtO x y = true ↔ cmpO x y = some .gt := by unfold gtO; simp
theorem ltO_iff {x y : Option Nat} : ltO x y = true ↔ cmpO x y = some .lt := by unfold ltO; simp
theorem eqO_iff {x y : Option Nat} : eqO x y = true ↔ cmpO x y = some .eq := by unfold eqO; simp

theorem cmp_le {a b : Int} (h : compare a b = .lt ∨ compare a b = .eq) : a ≤ b := by
  rcases h with h | h
  · exact Int.le_of_lt (Int.compare_eq_lt.1 h)
  · exact Int.le_of_eq (Int.compare_eq_eq.1 h)
theorem cmp_ge {a b : Int} (h : compare a b = .gt ∨ compare a b = .eq) : b ≤ a := by
  rcases h with h | h
  · exact Int.le_of_lt (Int.compare_eq_gt.1 h)
  · exact Int.le_of_eq (Int.compare_eq_eq.1 h).symm

/-- More than nought: a number whose sign is not set, or infinity. -/
theorem pos_cases {x : Option Nat} (hx : NN x) (h : gtO x (K 0) = true) : ∃ b, x = some b ∧ ((∃ m e, double.read b = .number false m e ∧ m ≠ 0) ∨ double.read b = .infinity false) := by
  have h0 : double.read 0 = .number false 0 (-1074) := by decide +kernel
  have hk : K 0 = some 0 := ab_number h0
  rw [hk, gtO_iff] at h
  obtain ⟨b, rfl, hb⟩ := hx.cases
  refine ⟨b, rfl, ?_⟩
  rcases hb with ⟨s, m, e, hb⟩ | ⟨s, hb⟩
  · rw [cmp_num hb h0] at h
    injection h with h
    have h := Int.compare_eq_gt.1 h
    rw [signed_zero] at h
    left
    cases s with
    | true => rw [signed_true] at h; omega
    | false =>
      refine ⟨m, e, hb, fun hm => ?_⟩
      subst hm
      rw [signed_zero] at h
      omega
  · rw [cmp_inf_num hb h0] at h
    cases s
    · exact .inr hb
    · cases h

/-- .. and at most a constant. -/
theorem le_bdp {b c : Nat} {m n : Nat} {e j : Int} {k : Nat} (hb : double.read b = .number false m e) (hc : double.read c = .number false n j) (hk : j + n.log2 < k) (h : leO (some b) (some c) = true) : BdP k (some b) := by
  rw [leO_iff, cmp_num hb hc] at h
  simp only [Option.some.injEq] at h
  have h := cmp_le h
  rw [signed_false', signed_false'] at h
  have h1 := read_place hb
  by_cases hm : m = 0
  · refine ⟨b, m, e, rfl, hb, ?_, .inl hm⟩
    have : e = -1074 := by omega
    omega
  · have h2 := pow_cmp (n := n) (i := e) (j := j) hm (by omega)
    refine ⟨b, m, e, rfl, hb, ⟨h1.1, ?_⟩, .inr (by omega)⟩
    omega

theorem one_read : double.read 4607182418800017408 = .number false 4503599627370496 (-52) := by decide +kernel

theorem bdp_const (k c : Nat) (m : Nat) (e : Int) (hr : double.read c = .number false m e) (h : -1074 ≤ e ∧ e ≤ k) (h2 : e + m.log2 < k) : BdP k (K c) := ⟨c, m, e, ab_number hr, hr, h, .inr h2⟩

/-- satan of what is more than nought is finite. -/
theorem satan_bd {x : Option Nat} (hx : NN x) (h : gtO x (K 0) = true) : Bd 90 (satanO x) := by
  obtain ⟨b, rfl, hb⟩ := pos_cases hx h
  unfold satanO
  have r66 : double.read 4604119971053405471 = .number false 5944751508129055 (-53) := by decide +kernel
  have r24 : double.read 4612618744449965542 = .number false 5436325649948134 (-51) := by decide +kernel
  have k66 : K 4604119971053405471 = some 4604119971053405471 := ab_number r66
  have k24 : K 4612618744449965542 = some 4612618744449965542 := ab_number r24
  have k1 : Bd 1 (K 4607182418800017408) := bd_const 1 _ (by decide +kernel)
  by_cases h1 : leO (some b) (K 4604119971053405471) = true
  · rw [if_pos h1]
    rw [k66] at h1
    rcases hb with ⟨m, e, hb, _⟩ | hb
    · exact (xatan_bd ((le_bdp (k := 5) hb r66 (by decide +kernel) h1).bd)).mono (by omega)
    · rw [leO_iff, cmp_inf_num hb r66] at h1
      rcases h1 with h1 | h1 <;> cases h1
  · rw [if_neg h1]
    by_cases h2 : gtO (some b) (K 4612618744449965542) = true
    · rw [if_pos h2]
      rw [k24] at h2
      have hq : Bd 5 (fO .quo (K 4607182418800017408) (some b)) := by
        rcases hb with ⟨m, e, hb, hm⟩ | hb
        · rw [gtO_iff, cmp_num hb r24] at h2
          simp only [Option.some.injEq] at h2
          have h2 := Int.compare_eq_gt.1 h2
          rw [signed_false', signed_false'] at h2
          have h3 := pow_cmp (m := 5436325649948134) (n := m) (i := -51) (j := e) (by omega) (by rw [show min (-51) e = min e (-51) by omega]; omega)
          have h4 : (5436325649948134 : Nat).log2 = 52 := by decide +kernel
          rw [h4] at h3
          have h5 := read_place hb
          have hl : Lb (1000 + 100) (some b) := by
            refine ⟨b, m, e, rfl, hb, ⟨h5.1, by omega⟩, hm, by omega, ?_⟩
            have : m.log2 < 53 := log2_lt_of hm (by rw [p53]; exact h5.2.1)
            omega
          exact (quo_bd k1 hl (by omega)).mono (by omega)
        · have : fO .quo (K 4607182418800017408) (some b) = some 0 := by
            rw [show K 4607182418800017408 = some 4607182418800017408 from ab_number one_read]
            show Option.map _ ((double.read _).quotient _ (double.read b)) = _
            rw [hb, one_read]
            decide +kernel
          rw [this]
          exact ⟨0, false, 0, -1074, rfl, by decide +kernel, by omega, .inl rfl⟩
      have hp2 : Bd 78 (K 4609753056924675352) := bd_const 78 _ (by decide +kernel)
      have s1 := sub_bd hp2 (xatan_bd hq) (by omega)
      exact (add_bd s1 (bd_const 80 4364452196894661639 (by decide +kernel)) (by omega)).mono (by omega)
    · rw [if_neg h2]
      rw [k24] at h2
      have hbp : BdP 2 (some b) := by
        rcases hb with ⟨m, e, hb, hm⟩ | hb
        · refine le_bdp hb r24 (by decide +kernel) ?_
          rw [leO_iff]
          rw [gtO_iff, cmp_num hb r24] at h2
          rw [cmp_num hb r24]
          generalize compare (signed false m (e - min e (-51)).toNat) (signed false 5436325649948134 (-51 - min e (-51)).toNat) = o at *
          cases o <;> simp at h2 ⊢
        · rw [gtO_iff, cmp_inf_num hb r24] at h2
          exact absurd rfl h2
      have l1 : Lb 2 (K 4607182418800017408) := lb_const 2 _ (by decide +kernel)
      have a1 := sub_bd hbp.bd (k1.mono (by omega)) (by omega)
      have a2 := add_lb hbp l1 (by omega)
      have hq := quo_bd a1 a2 (by omega)
      have hx := xatan_bd hq
      have s1 := add_bd (bd_const 78 4605249457297304856 (by decide +kernel)) hx (by omega)
      exact (add_bd s1 (bd_const 80 4359948597267291143 (by decide +kernel)) (by omega)).mono (by omega)

theorem neg_read {b : Nat} {d : Datum} (h : double.read b = d) (hb : b < two64) : double.read (Op.negFloat .f64 b) = d.opposite := by
  have hm := neg_mod b
  have hlt := neg_lt b hb
  have hd : Op.negFloat .f64 b / 9223372036854775808 = 1 - b / 9223372036854775808 := by
    have h1 : (2:Nat) ^ 63 = 9223372036854775808 := by decide +kernel
    show (b ^^^ 2 ^ 63) / 9223372036854775808 = _
    rw [← h1, ← Nat.shiftRight_eq_div_pow, Nat.shiftRight_xor_distrib, Nat.shiftRight_eq_div_pow, Nat.shiftRight_eq_div_pow, Nat.div_self (Nat.two_pow_pos _), h1]
    have : b / 9223372036854775808 = 0 ∨ b / 9223372036854775808 = 1 := by unfold two64 at hb; omega
    rcases this with h | h <;> rw [h] <;> rfl
  rw [← h]
  unfold Format.read
  simp only [d_least, d_binade, d_inf, d_sign]
  rw [hm, hd]
  have : b / 9223372036854775808 = 0 ∨ b / 9223372036854775808 = 1 := by unfold two64 at hb; omega
  generalize b % 9223372036854775808 = r
  rcases this with h | h <;> rw [h]
  all_goals
    split
    · rfl
    · split
      · rfl
      · split <;> rfl

theorem NN.neg {x : Option Nat} (hx : NN x) : NN (negO x) := by
  obtain ⟨c, rfl, h⟩ := hx
  exact ⟨_, rfl, by rw [ab_neg, h]; rfl⟩

/-- Not more than nought, not nought: below. -/
theorem neg_pos {b : Nat} (hb : ab b = some b) (hl : b < two64) (h1 : eqO (some b) (K 0) = false) (h2 : gtO (some b) (K 0) = false) : gtO (negO (some b)) (K 0) = true := by
  have h0 : double.read 0 = .number false 0 (-1074) := by decide +kernel
  have hk : K 0 = some 0 := ab_number h0
  rw [hk] at h1 h2 ⊢
  obtain ⟨c, hc, hcs⟩ := NN.cases ⟨b, rfl, hb⟩
  injection hc with hc
  subst hc
  rw [gtO_iff]
  have n1 : cmpO (some b) (some 0) ≠ some .eq := by rw [Ne, ← eqO_iff, h1]; simp
  have n2 : cmpO (some b) (some 0) ≠ some .gt := by rw [Ne, ← gtO_iff, h2]; simp
  rcases hcs with ⟨s, m, e, hr⟩ | ⟨s, hr⟩
  · have hn : double.read (Op.negFloat .f64 b) = .number (!s) m e := neg_read hr hl
    rw [cmp_num hr h0] at n1 n2
    show cmpO (some (Op.negFloat .f64 b)) (some 0) = _
    rw [cmp_num hn h0]
    rw [signed_zero] at *
    cases s with
    | false =>
      exfalso
      by_cases hm : m = 0
      · subst hm; rw [signed_zero] at n1; exact n1 rfl
      · exact n2 (by rw [Int.compare_eq_gt.2 (signed_pos _ hm)])
    | true =>
      by_cases hm : m = 0
      · subst hm; rw [signed_zero] at n1; exact absurd rfl n1
      · exact congrArg some (Int.compare_eq_gt.2 (signed_pos _ hm))
  · have hn : double.read (Op.negFloat .f64 b) = .infinity (!s) := neg_read hr hl
    rw [cmp_inf_num hr h0] at n2
    show cmpO (some (Op.negFloat .f64 b)) (some 0) = _
    rw [cmp_inf_num hn h0]
    cases s
    · exact absurd rfl n2
    · rfl

theorem bd_neg {k : Nat} {x : Option Nat} (hx : Bd k x) (hl : ∀ b, x = some b → b < two64) : Bd k (negO x) := by
  obtain ⟨b, s, m, e, rfl, h2, h3, h4⟩ := hx
  exact ⟨_, !s, m, e, rfl, neg_read h2 (hl b rfl), h3, h4⟩

theorem satan_lt {x : Option Nat} {c : Nat} (h : satanO x = some c) : c < two64 := by
  unfold satanO at h
  split at h
  · unfold xatanO at h; exact fO_lt h
  · split at h
    · exact fO_lt h
    · exact fO_lt h

/-- atan of what is no NaN: finite, or a zero handed back. -/
theorem atan_bd {b : Nat} (hb : ab b = some b) (hl : b < two64) : Bd 90 (atanO (some b)) := by
  unfold atanO
  have h0 : double.read 0 = .number false 0 (-1074) := by decide +kernel
  have hk : K 0 = some 0 := ab_number h0
  cases h1 : eqO (some b) (K 0)
  · rw [if_neg (by simp)]
    cases h2 : gtO (some b) (K 0)
    · rw [if_neg (by simp)]
      exact bd_neg (satan_bd (NN.neg ⟨b, rfl, hb⟩) (neg_pos hb hl h1 h2)) (fun c hc => satan_lt hc)
    · rw [if_pos rfl]
      exact satan_bd ⟨b, rfl, hb⟩ h2
  · rw [if_pos rfl]
    rw [hk, eqO_iff] at h1
    obtain ⟨c, hc, hcs⟩ := NN.cases ⟨b, rfl, hb⟩
    injection hc with hc
    subst hc
    rcases hcs with ⟨s, m, e, hr⟩ | ⟨s, hr⟩
    · rw [cmp_num hr h0, signed_zero] at h1
      injection h1 with h1
      have h1 := Int.compare_eq_eq.1 h1
      have hm : m = 0 := by
        by_cases hm : m = 0
        · exact hm
        · exfalso
          have := signed_abs s m (e - min e (-1074)).toNat
          rw [h1] at this
          have : 0 < m * 2 ^ (e - min e (-1074)).toNat := Nat.mul_pos (by omega) (Nat.two_pow_pos _)
          simp at *
          omega
      have hp := read_place hr
      exact ⟨b, s, m, e, rfl, hr, ⟨hp.1, by omega⟩, .inl hm⟩
    · rw [cmp_inf_num hr h0] at h1
      cases s <;> cases h1

theorem cs_nn (c : Nat) (hc : c % 9223372036854775808 ≤ 9218868437227405312) {b : Nat} (hb : ab b = some b) : NN (csO c (some b)) := by
  have := ab_cs c b hc hb
  rw [hb] at this
  exact ⟨_, rfl, this⟩

/-- atan2 of two finite numbers is no NaN. -/
theorem atan2_nn {k l : Nat} {y x : Option Nat} (hy : Bd k y) (hx : Bd l x) : NN (atan2O y x) := by
  have ey := Flt.eq_self hy
  have ex := Flt.eq_self hx
  obtain ⟨b, t, n, j, rfl, hb, _, _⟩ := hy
  obtain ⟨a, s, m, i, rfl, ha, _, _⟩ := hx
  have hab := ab_number hb
  have h0 : double.read 0 = .number false 0 (-1074) := by decide +kernel
  have hk : K 0 = some 0 := ab_number h0
  unfold atan2O
  rw [ey, ex]
  simp only [Bool.not_true, Bool.or_self, Bool.false_eq_true, if_false]
  split
  · split
    · exact cs_nn _ (by decide +kernel) hab
    · exact cs_nn _ (by decide +kernel) hab
  · split
    · exact cs_nn _ (by decide +kernel) hab
    · rename_i hxz
      split
      · split
        · split <;> exact cs_nn _ (by decide +kernel) hab
        · split <;> exact cs_nn _ (by decide +kernel) hab
      · split
        · exact cs_nn _ (by decide +kernel) hab
        · have hm : m ≠ 0 := by
            intro hm
            subst hm
            apply hxz
            rw [hk, eqO_iff, cmp_num ha h0, signed_zero, signed_zero]
            rfl
          obtain ⟨q, hq, hqn⟩ := quo_some hb ha hm
          have hA := atan_bd hqn (fO_lt hq)
          rw [hq]
          have hpi : Bd 90 (K 4614256656552045848) := bd_const 90 _ (by decide +kernel)
          split
          · split
            · exact Bd_nn (add_bd hA hpi (by omega))
            · exact Bd_nn (sub_bd hA hpi (by omega))
          · exact Bd_nn hA

end Go.Proofs.Qxb6614725a

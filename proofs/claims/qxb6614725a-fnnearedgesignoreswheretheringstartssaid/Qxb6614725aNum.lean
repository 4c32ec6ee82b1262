/-
  Plain facts on float64 (seat b6614725a): how great a sum, a product, a quotient, a root can be; what is zero; that none of them is a NaN. No Go in sight.
-/
import Derived.Test.Qxb6614725aFlt
namespace Go.Flt
open Go Ieee

theorem p52 : (2:Nat) ^ 52 = 4503599627370496 := by decide +kernel
theorem p53 : (2:Nat) ^ 53 = 9007199254740992 := by decide +kernel

theorem log2_bounds {m : Nat} (h : m ≠ 0) : 2 ^ m.log2 ≤ m ∧ m < 2 ^ (m.log2 + 1) := ⟨Nat.log2_self_le h, Nat.lt_log2_self⟩

theorem log2_lt_of {m k : Nat} (hm : m ≠ 0) (h : m < 2 ^ k) : m.log2 < k := (Nat.log2_lt hm).2 h
theorem le_log2_of {m k : Nat} (hm : m ≠ 0) (h : 2 ^ k ≤ m) : k ≤ m.log2 := (Nat.le_log2 hm).2 h

theorem cut_zero (neg : Bool) (n : Nat) : Toward.even.cut neg n 0 = n := by
  unfold Toward.cut
  simp only [Nat.zero_min, Nat.shiftLeft_zero, Nat.div_one, Nat.mod_one]
  simp

theorem cut_between (neg : Bool) (n d : Nat) : n / 2 ^ min d (n.log2 + 2) ≤ Toward.even.cut neg n d ∧ Toward.even.cut neg n d ≤ n / 2 ^ min d (n.log2 + 2) + 1 := by
  unfold Toward.cut
  simp only [Nat.shiftLeft_eq, Nat.one_mul]
  exact ⟨Nat.le_add_right _ _, Nat.add_le_add_left (Bool.toNat_le _) _⟩

theorem scale_up {m L : Nat} (hm : m ≠ 0) (hL : m.log2 = L) (h : L ≤ 52) : 4503599627370496 ≤ m * 2 ^ (52 - L) ∧ m * 2 ^ (52 - L) < 9007199254740992 := by
  obtain ⟨h1, h2⟩ := log2_bounds hm
  rw [hL] at h1 h2
  have a : 2 ^ L * 2 ^ (52 - L) = 4503599627370496 := by rw [← Nat.pow_add, ← p52]; congr 1; omega
  have b : 2 ^ (L + 1) * 2 ^ (52 - L) = 9007199254740992 := by rw [← Nat.pow_add, ← p53]; congr 1; omega
  have c : 2 ^ L * 2 ^ (52 - L) ≤ m * 2 ^ (52 - L) := Nat.mul_le_mul_right _ h1
  have d : m * 2 ^ (52 - L) < 2 ^ (L + 1) * 2 ^ (52 - L) := Nat.mul_lt_mul_of_pos_right h2 (Nat.two_pow_pos _)
  rw [a] at c
  rw [b] at d
  exact ⟨c, d⟩

theorem scale_down {m L : Nat} (hm : m ≠ 0) (hL : m.log2 = L) (h : 52 < L) : 4503599627370496 ≤ m / 2 ^ (L - 52) ∧ m / 2 ^ (L - 52) < 9007199254740992 := by
  obtain ⟨h1, h2⟩ := log2_bounds hm
  rw [hL] at h1 h2
  have a : 4503599627370496 * 2 ^ (L - 52) = 2 ^ L := by rw [← p52, ← Nat.pow_add]; congr 1; omega
  have b : 9007199254740992 * 2 ^ (L - 52) = 2 ^ (L + 1) := by rw [← p53, ← Nat.pow_add]; congr 1; omega
  have hp : 0 < 2 ^ (L - 52) := Nat.two_pow_pos _
  refine ⟨(Nat.le_div_iff_mul_le hp).2 (by rw [a]; exact h1), (Nat.div_lt_iff_lt_mul hp).2 (by rw [b]; exact h2)⟩

theorem small_up {m L k : Nat} (hm : m ≠ 0) (hL : m.log2 = L) (h : L + k ≤ 51) : m * 2 ^ k ≤ 4503599627370496 := by
  obtain ⟨_, h2⟩ := log2_bounds hm
  rw [hL] at h2
  have a : m * 2 ^ k ≤ 2 ^ (L + 1) * 2 ^ k := Nat.mul_le_mul_right _ (Nat.le_of_lt h2)
  rw [← Nat.pow_add] at a
  have b : (2:Nat) ^ (L + 1 + k) ≤ 2 ^ 52 := Nat.pow_le_pow_right (by omega) (by omega)
  rw [p52] at b
  exact Nat.le_trans a b

theorem small_down {m L d : Nat} (hm : m ≠ 0) (hL : m.log2 = L) (h : L ≤ 51 + d) : m / 2 ^ d < 4503599627370496 := by
  obtain ⟨_, h2⟩ := log2_bounds hm
  rw [hL] at h2
  have hp : 0 < 2 ^ d := Nat.two_pow_pos _
  refine (Nat.div_lt_iff_lt_mul hp).2 (Nat.lt_of_lt_of_le h2 ?_)
  rw [← p52, ← Nat.pow_add]
  exact Nat.pow_le_pow_right (by omega) (by omega)

/-- Where a number that is not nought is rounded to. -/
theorem nearest_spec (s : Bool) (mag : Nat) (place : Int) (hm : mag ≠ 0) : ∃ r, double.nearest s mag place = double.word s (min r 9218868437227405312) ∧
    ((∃ E : Nat, (E : Int) = place + mag.log2 + 1022 ∧ (E + 1) * 4503599627370496 ≤ r ∧ r ≤ (E + 2) * 4503599627370496) ∨ (place + mag.log2 < -1022 ∧ r ≤ 4503599627370496)) := by
  unfold Format.nearest
  rw [if_neg hm]
  simp only [d_least, d_binade, d_inf, d_frac]
  refine ⟨_, rfl, ?_⟩
  generalize hL : mag.log2 = L
  by_cases hA : -1022 ≤ place + L
  · refine .inl ⟨(place + L + 1022).toNat, by omega, ?_⟩
    have e1 : max (place + (L : Int) - ((52 : Nat) : Int)) (-1074) = place + L - 52 := by omega
    rw [e1]
    have e4 : (place + (L : Int) - 52 - -1074).toNat = (place + L + 1022).toNat := by omega
    rw [e4]
    generalize (place + (L : Int) + 1022).toNat = E
    by_cases hle : L ≤ 52
    · have e2 : (place - (place + (L : Int) - 52)).toNat = 52 - L := by omega
      have e3 : (place + (L : Int) - 52 - place).toNat = 0 := by omega
      rw [e2, e3, cut_zero, Nat.shiftLeft_eq]
      obtain ⟨a, b⟩ := scale_up hm hL hle
      generalize mag * 2 ^ (52 - L) = X at *
      omega
    · have e2 : (place - (place + (L : Int) - 52)).toNat = 0 := by omega
      have e3 : (place + (L : Int) - 52 - place).toNat = L - 52 := by omega
      rw [e2, e3, Nat.shiftLeft_zero]
      obtain ⟨a, b⟩ := cut_between s mag (L - 52)
      rw [hL, show min (L - 52) (L + 2) = L - 52 by omega] at a b
      obtain ⟨c, d⟩ := scale_down hm hL (by omega)
      generalize mag / 2 ^ (L - 52) = X at *
      generalize Toward.even.cut s mag (L - 52) = Y at *
      omega
  · refine .inr ⟨by omega, ?_⟩
    have e1 : max (place + (L : Int) - ((52 : Nat) : Int)) (-1074) = -1074 := by omega
    rw [e1]
    have e4 : ((-1074 : Int) - -1074).toNat = 0 := by omega
    rw [e4, Nat.zero_mul, Nat.zero_add]
    by_cases hp : -1074 ≤ place
    · have e3 : ((-1074 : Int) - place).toNat = 0 := by omega
      rw [e3, cut_zero, Nat.shiftLeft_eq]
      exact small_up hm hL (by omega)
    · have e2 : (place - (-1074 : Int)).toNat = 0 := by omega
      rw [e2, Nat.shiftLeft_zero]
      obtain ⟨a, b⟩ := cut_between s mag ((-1074 : Int) - place).toNat
      rw [hL] at a b
      have c : mag / 2 ^ min ((-1074 : Int) - place).toNat (L + 2) < 4503599627370496 := small_down hm hL (by omega)
      omega

theorem read_word (s : Bool) (r : Nat) (h : r < 9218868437227405312) :
    double.read (double.word s r) = .number s (if r < 4503599627370496 then r else 4503599627370496 + r % 4503599627370496) (if r < 4503599627370496 then -1074 else -1074 + ((r / 4503599627370496 - 1 : Nat) : Int)) := by
  unfold Format.read Format.word
  simp only [d_least, d_binade, d_inf, d_sign]
  cases s
  · have a1 : r / 9223372036854775808 = 0 := by omega
    have a2 : r % 9223372036854775808 = r := by omega
    simp only [Bool.false_eq_true, if_false, a1, a2]
    split
    · rfl
    · rfl
  · have a1 : (9223372036854775808 + r) / 9223372036854775808 = 1 := by omega
    have a2 : (9223372036854775808 + r) % 9223372036854775808 = r := by omega
    simp only [if_true, a1, a2]
    split
    · rfl
    · rfl

/-- A finite number below 2^K. -/
def Bd (K : Nat) (o : Option Nat) : Prop := ∃ b s m e, o = some b ∧ double.read b = .number s m e ∧ (-1074 ≤ e ∧ e ≤ K) ∧ (m = 0 ∨ e + m.log2 < K)
/-- .. and not below nought (its sign is not set). -/
def BdP (K : Nat) (o : Option Nat) : Prop := ∃ b m e, o = some b ∧ double.read b = .number false m e ∧ (-1074 ≤ e ∧ e ≤ K) ∧ (m = 0 ∨ e + m.log2 < K)
/-- A zero, of either sign. -/
def Z (o : Option Nat) : Prop := ∃ b s e, o = some b ∧ double.read b = .number s 0 e
/-- At least 1, finite. -/
def Lb (K : Nat) (o : Option Nat) : Prop := ∃ b m e, o = some b ∧ double.read b = .number false m e ∧ (-1074 ≤ e ∧ e ≤ K) ∧ m ≠ 0 ∧ 0 ≤ e + m.log2 ∧ e + m.log2 < K

theorem BdP.bd {K : Nat} {o : Option Nat} (h : BdP K o) : Bd K o := let ⟨b, m, e, h⟩ := h; ⟨b, false, m, e, h⟩
theorem Lb.bdp {K : Nat} {o : Option Nat} (h : Lb K o) : BdP K o := let ⟨b, m, e, h1, h2, h3, _, _, h6⟩ := h; ⟨b, m, e, h1, h2, h3, .inr h6⟩
theorem Bd.mono {K L : Nat} {o : Option Nat} (h : Bd K o) (hL : K ≤ L) : Bd L o := let ⟨b, s, m, e, h1, h2, h3, h4⟩ := h; ⟨b, s, m, e, h1, h2, by omega, by omega⟩
theorem BdP.mono {K L : Nat} {o : Option Nat} (h : BdP K o) (hL : K ≤ L) : BdP L o := let ⟨b, m, e, h1, h2, h3, h4⟩ := h; ⟨b, m, e, h1, h2, by omega, by omega⟩
theorem Lb.mono {K L : Nat} {o : Option Nat} (h : Lb K o) (hL : K ≤ L) : Lb L o := let ⟨b, m, e, h1, h2, h3, h4, h5, h6⟩ := h; ⟨b, m, e, h1, h2, by omega, h4, h5, by omega⟩

theorem nearest_zero (s : Bool) (place : Int) : double.nearest s 0 place = double.word s 0 := by unfold Format.nearest; rw [if_pos rfl]

theorem read_zero (s : Bool) : double.read (double.word s 0) = .number s 0 (-1074) := by
  rw [read_word s 0 (by omega)]; rfl

/-- A number below 2^K, rounded. -/
theorem nearest_bd (s : Bool) (mag : Nat) (place : Int) (K : Nat) (hK : K ≤ 1022) (h : mag = 0 ∨ place + mag.log2 < K) :
    ∃ m e, double.read (double.nearest s mag place) = .number s m e ∧ (-1074 ≤ e ∧ e ≤ (K + 1 : Nat)) ∧ (m = 0 ∨ e + m.log2 < (K + 1 : Nat)) ∧ (mag = 0 → m = 0) ∧ (mag ≠ 0 → 0 ≤ place + mag.log2 → m ≠ 0 ∧ 0 ≤ e + m.log2) ∧ (mag ≠ 0 → -1022 ≤ place + mag.log2 → m ≠ 0) := by
  by_cases hm : mag = 0
  · subst hm
    rw [nearest_zero, read_zero]
    exact ⟨0, -1074, rfl, by omega, .inl rfl, fun _ => rfl, fun h => absurd rfl h, fun h => absurd rfl h⟩
  · have h' : place + mag.log2 < K := h.resolve_left hm
    obtain ⟨r, hr, hc⟩ := nearest_spec s mag place hm
    have hlt : r < 9218868437227405312 := by
      rcases hc with ⟨E, h1, h2, h3⟩ | ⟨_, h2⟩
      · have hE : E + 2 ≤ 2046 := by omega
        have : (E + 2) * 4503599627370496 ≤ 2046 * 4503599627370496 := Nat.mul_le_mul_right _ hE
        omega
      · omega
    rw [hr, show min r 9218868437227405312 = r by omega, read_word s r hlt]
    by_cases hs : r < 4503599627370496
    · rw [if_pos hs, if_pos hs]
      have hno : ¬ (-1022 ≤ place + mag.log2) := by
        rcases hc with ⟨E, h1, h2, h3⟩ | ⟨h1, _⟩
        · have : 1 * 4503599627370496 ≤ (E + 1) * 4503599627370496 := Nat.mul_le_mul_right _ (by omega)
          omega
        · omega
      refine ⟨r, -1074, rfl, by omega, ?_, fun h => absurd h hm, fun _ h => absurd h (by omega), fun _ h => absurd h hno⟩
      by_cases h0 : r = 0
      · exact .inl h0
      · have : r.log2 < 52 := log2_lt_of h0 (by rw [p52]; exact hs)
        exact .inr (by omega)
    · rw [if_neg hs, if_neg hs]
      have hl : (4503599627370496 + r % 4503599627370496).log2 = 52 := by
        have h1 : (4503599627370496 + r % 4503599627370496).log2 < 53 := log2_lt_of (by omega) (by rw [p53]; omega)
        have h2 : 52 ≤ (4503599627370496 + r % 4503599627370496).log2 := le_log2_of (by omega) (by rw [p52]; omega)
        omega
      have hb : -1074 + ((r / 4503599627370496 - 1 : Nat) : Int) + 52 < (K + 1 : Nat) ∧ (0 ≤ place + mag.log2 → 0 ≤ -1074 + ((r / 4503599627370496 - 1 : Nat) : Int) + 52) := by
        rcases hc with ⟨E, h1, h2, h3⟩ | ⟨h1, h2⟩
        · have h4 : r / 4503599627370496 ≤ E + 2 := Nat.div_le_of_le_mul (by omega)
          have h5 : E + 1 ≤ r / 4503599627370496 := (Nat.le_div_iff_mul_le (by omega)).2 h2
          omega
        · have h4 : r / 4503599627370496 ≤ 1 := Nat.div_le_of_le_mul (by omega)
          omega
      refine ⟨_, _, rfl, by omega, .inr (by rw [hl]; exact hb.1), fun h => absurd h hm, fun _ h => ⟨by omega, by rw [hl]; exact hb.2 h⟩, fun _ _ => by omega⟩

/-! ### The operations on numbers -/
section
variable {a b : Nat} {s t : Bool} {m n : Nat} {i j : Int}

theorem fO_mul (ha : double.read a = .number s m i) (hb : double.read b = .number t n j) : fO .mul (some a) (some b) = some (double.nearest (s ^^ t) (m * n) (i + j)) := by
  show Option.map _ ((double.read a).product (double.read b)) = _
  rw [ha, hb]; rfl

/-- The sum of two numbers, in units of the lower place. -/
def total (s : Bool) (m : Nat) (i : Int) (t : Bool) (n : Nat) (j : Int) : Int := signed s m (i - min i j).toNat + signed t n (j - min i j).toNat

theorem fO_add (ha : double.read a = .number s m i) (hb : double.read b = .number t n j) :
    fO .add (some a) (some b) = some (double.nearest (if total s m i t n j = 0 then s && t else total s m i t n j < 0) (total s m i t n j).natAbs (min i j)) := by
  show Option.map _ ((double.read a).sum (double.read b)) = _
  rw [ha, hb]; rfl

theorem fO_sub (ha : double.read a = .number s m i) (hb : double.read b = .number t n j) :
    fO .sub (some a) (some b) = some (double.nearest (if total s m i (!t) n j = 0 then s && !t else total s m i (!t) n j < 0) (total s m i (!t) n j).natAbs (min i j)) := by
  show Option.map _ ((double.read a).sum (double.read b).opposite) = _
  rw [ha, hb]; rfl

theorem fO_quo (ha : double.read a = .number s m i) (hb : double.read b = .number t n j) (hn : n ≠ 0) :
    fO .quo (some a) (some b) = some (double.nearest (s ^^ t) (2 * ((m <<< (54 + n.log2 - m.log2)) / n) + ((m <<< (54 + n.log2 - m.log2)) % n != 0).toNat) (i - j - (54 + n.log2 - m.log2 : Nat) - 1)) := by
  show Option.map _ ((double.read a).quotient _ (double.read b)) = _
  rw [ha, hb]
  unfold Datum.quotient
  simp only [if_neg hn]
  rfl
end

theorem log2_mul {m n : Nat} (hm : m ≠ 0) (hn : n ≠ 0) : (m * n).log2 ≤ m.log2 + n.log2 + 1 := by
  have h1 := (log2_bounds hm).2
  have h2 := (log2_bounds hn).2
  have h3 : m * n < 2 ^ (m.log2 + n.log2 + 2) := by
    have : m * n < 2 ^ (m.log2 + 1) * 2 ^ (n.log2 + 1) := Nat.mul_lt_mul'' h1 h2
    rwa [← Nat.pow_add, show m.log2 + 1 + (n.log2 + 1) = m.log2 + n.log2 + 2 by omega] at this
  have := log2_lt_of (Nat.mul_ne_zero hm hn) h3
  omega

theorem mul_core {a b : Nat} {s t : Bool} {m n : Nat} {i j : Int} {K L : Nat} (ha : double.read a = .number s m i) (hb : double.read b = .number t n j) (h1 : m = 0 ∨ i + m.log2 < K) (h2 : n = 0 ∨ j + n.log2 < L) (hK : K + L ≤ 1022) :
    ∃ c p e, fO .mul (some a) (some b) = some c ∧ double.read c = .number (s ^^ t) p e ∧ (-1074 ≤ e ∧ e ≤ (K + L + 1 : Nat)) ∧ (p = 0 ∨ e + p.log2 < (K + L + 1 : Nat)) ∧ (m = 0 ∨ n = 0 → p = 0) := by
  have hb' : m * n = 0 ∨ i + j + (m * n).log2 < (K + L : Nat) := by
    by_cases hm : m = 0
    · left; rw [hm, Nat.zero_mul]
    · by_cases hn : n = 0
      · left; rw [hn, Nat.mul_zero]
      · right
        have := log2_mul hm hn
        have h1' := h1.resolve_left hm
        have h2' := h2.resolve_left hn
        omega
  obtain ⟨p, e, h3, h4, h5, h6, _⟩ := nearest_bd (s ^^ t) (m * n) (i + j) (K + L) hK hb'
  exact ⟨_, p, e, fO_mul ha hb, h3, h4, h5, fun h => h6 (by rcases h with h | h <;> simp [h])⟩

theorem mul_bd {K L : Nat} {x y : Option Nat} (hx : Bd K x) (hy : Bd L y) (hK : K + L ≤ 1022) : Bd (K + L + 1) (fO .mul x y) := by
  obtain ⟨a, s, m, i, rfl, ha, _, h1⟩ := hx
  obtain ⟨b, t, n, j, rfl, hb, _, h2⟩ := hy
  obtain ⟨c, p, e, h3, h4, h5, h6, _⟩ := mul_core ha hb h1 h2 hK
  exact ⟨c, _, p, e, h3, h4, h5, h6⟩

theorem mul_bdp {K L : Nat} {x y : Option Nat} (hx : BdP K x) (hy : BdP L y) (hK : K + L ≤ 1022) : BdP (K + L + 1) (fO .mul x y) := by
  obtain ⟨a, m, i, rfl, ha, _, h1⟩ := hx
  obtain ⟨b, n, j, rfl, hb, _, h2⟩ := hy
  obtain ⟨c, p, e, h3, h4, h5, h6, _⟩ := mul_core ha hb h1 h2 hK
  exact ⟨c, p, e, h3, h4, h5, h6⟩

/-- A square is not below nought. -/
theorem sq_bdp {K : Nat} {x : Option Nat} (hx : Bd K x) (hK : K + K ≤ 1022) : BdP (K + K + 1) (fO .mul x x) := by
  obtain ⟨a, s, m, i, rfl, ha, _, h1⟩ := hx
  obtain ⟨c, p, e, h3, h4, h5, h6, _⟩ := mul_core ha ha h1 h1 hK
  rw [Bool.xor_self] at h4
  exact ⟨c, p, e, h3, h4, h5, h6⟩

theorem mul_z {K : Nat} {x y : Option Nat} (hx : Z x) (hy : Bd K y) (hK : K ≤ 1022) : Z (fO .mul x y) := by
  obtain ⟨a, s, i, rfl, ha⟩ := hx
  obtain ⟨b, t, n, j, rfl, hb, _, h2⟩ := hy
  obtain ⟨c, p, e, h3, h4, h5, h6, h7⟩ := mul_core (K := 0) ha hb (.inl rfl) h2 (by omega)
  rw [h7 (.inl rfl)] at h4
  exact ⟨c, _, e, h3, h4⟩

theorem z_mul {K : Nat} {x y : Option Nat} (hx : Bd K x) (hy : Z y) (hK : K ≤ 1022) : Z (fO .mul x y) := by
  obtain ⟨a, s, m, i, rfl, ha, _, h1⟩ := hx
  obtain ⟨b, t, j, rfl, hb⟩ := hy
  obtain ⟨c, p, e, h3, h4, h5, h6, h7⟩ := mul_core (L := 0) ha hb h1 (.inl rfl) (by omega)
  rw [h7 (.inr rfl)] at h4
  exact ⟨c, _, e, h3, h4⟩

theorem word_false_zero : double.word false 0 = 0 := rfl

/-- The square of a zero. -/
theorem sq_z {x : Option Nat} (hx : Z x) : fO .mul x x = some 0 := by
  obtain ⟨a, s, i, rfl, ha⟩ := hx
  rw [fO_mul ha ha, Nat.mul_zero, Bool.xor_self, nearest_zero, word_false_zero]

theorem signed_abs (s : Bool) (m up : Nat) : (signed s m up).natAbs = m * 2 ^ up := by
  unfold signed
  rw [Nat.shiftLeft_eq]
  split
  · rw [Int.natAbs_neg, Int.natAbs_natCast]
  · rw [Int.natAbs_natCast]

theorem shift_lt {m : Nat} {i base : Int} {K : Nat} (h : m = 0 ∨ i + m.log2 < K) (hb : base ≤ i) (hK : base ≤ K) : m * 2 ^ (i - base).toNat < 2 ^ (K - base).toNat := by
  by_cases hm : m = 0
  · rw [hm, Nat.zero_mul]; exact Nat.two_pow_pos _
  · have h1 := h.resolve_left hm
    have h2 := (log2_bounds hm).2
    have h3 : m * 2 ^ (i - base).toNat < 2 ^ (m.log2 + 1) * 2 ^ (i - base).toNat := Nat.mul_lt_mul_of_pos_right h2 (Nat.two_pow_pos _)
    rw [← Nat.pow_add] at h3
    exact Nat.lt_of_lt_of_le h3 (Nat.pow_le_pow_right (by omega) (by omega))

theorem total_lt {s t : Bool} {m n : Nat} {i j : Int} {K : Nat} (h1 : m = 0 ∨ i + m.log2 < K) (h2 : n = 0 ∨ j + n.log2 < K) (hij : min i j ≤ K) :
    (total s m i t n j).natAbs = 0 ∨ min i j + (total s m i t n j).natAbs.log2 < (K + 1 : Nat) := by
  by_cases h0 : (total s m i t n j).natAbs = 0
  · exact .inl h0
  · right
    have a := shift_lt (base := min i j) h1 (by omega) hij
    have b := shift_lt (base := min i j) h2 (by omega) hij
    have c : (total s m i t n j).natAbs ≤ (signed s m (i - min i j).toNat).natAbs + (signed t n (j - min i j).toNat).natAbs := Int.natAbs_add_le _ _
    rw [signed_abs, signed_abs] at c
    have d : (total s m i t n j).natAbs < 2 ^ ((K - min i j).toNat + 1) := by rw [Nat.pow_succ]; omega
    have := log2_lt_of h0 d
    omega

theorem add_bd {K : Nat} {x y : Option Nat} (hx : Bd K x) (hy : Bd K y) (hK : K + 1 ≤ 1022) : Bd (K + 2) (fO .add x y) := by
  obtain ⟨a, s, m, i, rfl, ha, hi, h1⟩ := hx
  obtain ⟨b, t, n, j, rfl, hb, hj, h2⟩ := hy
  obtain ⟨p, e, h3, h4, h5, h6, _⟩ := nearest_bd (if total s m i t n j = 0 then s && t else total s m i t n j < 0) _ (min i j) (K + 1) hK (total_lt h1 h2 (by omega))
  exact ⟨_, _, p, e, fO_add ha hb, h3, h4, h5⟩

theorem sub_bd {K : Nat} {x y : Option Nat} (hx : Bd K x) (hy : Bd K y) (hK : K + 1 ≤ 1022) : Bd (K + 2) (fO .sub x y) := by
  obtain ⟨a, s, m, i, rfl, ha, hi, h1⟩ := hx
  obtain ⟨b, t, n, j, rfl, hb, hj, h2⟩ := hy
  obtain ⟨p, e, h3, h4, h5, h6, _⟩ := nearest_bd (if total s m i (!t) n j = 0 then s && !t else total s m i (!t) n j < 0) _ (min i j) (K + 1) hK (total_lt h1 h2 (by omega))
  exact ⟨_, _, p, e, fO_sub ha hb, h3, h4, h5⟩

theorem total_pos {m n : Nat} {i j : Int} : 0 ≤ total false m i false n j ∧ (n * 2 ^ (j - min i j).toNat : Nat) ≤ total false m i false n j := by
  have e : total false m i false n j = ((m <<< (i - min i j).toNat : Nat) : Int) + ((n <<< (j - min i j).toNat : Nat) : Int) := rfl
  rw [e, Nat.shiftLeft_eq, Nat.shiftLeft_eq]
  omega

theorem add_bdp {K : Nat} {x y : Option Nat} (hx : BdP K x) (hy : BdP K y) (hK : K + 1 ≤ 1022) : BdP (K + 2) (fO .add x y) := by
  obtain ⟨a, m, i, rfl, ha, hi, h1⟩ := hx
  obtain ⟨b, n, j, rfl, hb, hj, h2⟩ := hy
  have hs : (if total false m i false n j = 0 then false && false else decide (total false m i false n j < 0)) = false := by
    split
    · rfl
    · rw [decide_eq_false_iff_not]; have := (total_pos (m := m) (n := n) (i := i) (j := j)).1; omega
  obtain ⟨p, e, h3, h4, h5, h6, _⟩ := nearest_bd false (total false m i false n j).natAbs (min i j) (K + 1) hK (total_lt h1 h2 (by omega))
  refine ⟨_, p, e, (fO_add ha hb).trans (by rw [hs]), h3, h4, h5⟩

/-- A number not below nought, and one at least 1. -/
theorem add_lb {K : Nat} {x y : Option Nat} (hx : BdP K x) (hy : Lb K y) (hK : K + 1 ≤ 1022) : Lb (K + 2) (fO .add x y) := by
  obtain ⟨a, m, i, rfl, ha, hi, h1⟩ := hx
  obtain ⟨b, n, j, rfl, hb, hj, hn, hl, h2⟩ := hy
  obtain ⟨q1, q2⟩ := total_pos (m := m) (n := n) (i := i) (j := j)
  have hb2 := (log2_bounds hn).1
  have hge : 2 ^ (n.log2 + (j - min i j).toNat) ≤ n * 2 ^ (j - min i j).toNat := by
    rw [Nat.pow_add]; exact Nat.mul_le_mul_right _ hb2
  have hne : total false m i false n j ≠ 0 := by
    have : 0 < 2 ^ (n.log2 + (j - min i j).toNat) := Nat.two_pow_pos _
    omega
  have hs : (if total false m i false n j = 0 then false && false else decide (total false m i false n j < 0)) = false := by
    rw [if_neg hne, decide_eq_false_iff_not]; omega
  have hlg : n.log2 + (j - min i j).toNat ≤ (total false m i false n j).natAbs.log2 := le_log2_of (by omega) (by omega)
  obtain ⟨p, e, h3, h4, h5, h6, h7, _⟩ := nearest_bd false (total false m i false n j).natAbs (min i j) (K + 1) hK (total_lt h1 (.inr h2) (by omega))
  obtain ⟨g1, g2⟩ := h7 (by omega) (by omega)
  exact ⟨_, p, e, (fO_add ha hb).trans (by rw [hs]), h3, h4, g1, g2, h5.resolve_left g1⟩

theorem total_z {s t : Bool} {i j : Int} : total s 0 i t 0 j = 0 := by
  unfold total signed
  simp

theorem add_z {x y : Option Nat} (hx : Z x) (hy : Z y) : Z (fO .add x y) := by
  obtain ⟨a, s, i, rfl, ha⟩ := hx
  obtain ⟨b, t, j, rfl, hb⟩ := hy
  rw [fO_add ha hb, total_z, if_pos rfl, Int.natAbs_zero, nearest_zero]
  exact ⟨_, _, _, rfl, read_zero _⟩

theorem sub_z {x y : Option Nat} (hx : Z x) (hy : Z y) : Z (fO .sub x y) := by
  obtain ⟨a, s, i, rfl, ha⟩ := hx
  obtain ⟨b, t, j, rfl, hb⟩ := hy
  rw [fO_sub ha hb, total_z, if_pos rfl, Int.natAbs_zero, nearest_zero]
  exact ⟨_, _, _, rfl, read_zero _⟩

/-- x - x. -/
theorem sub_self_z {K : Nat} {x : Option Nat} (hx : Bd K x) : Z (fO .sub x x) := by
  obtain ⟨a, s, m, i, rfl, ha, _, _⟩ := hx
  have h0 : total s m i (!s) m i = 0 := by
    unfold total signed
    cases s <;> simp <;> omega
  rw [fO_sub ha ha, h0, if_pos rfl, Int.natAbs_zero, nearest_zero]
  exact ⟨_, _, _, rfl, read_zero _⟩

theorem zero_z : Z (some 0) := ⟨0, false, -1074, rfl, by decide +kernel⟩
theorem add_zero_zero : fO .add (some 0) (some 0) = some 0 := by decide +kernel

/-- A quotient by a number that is at least 1. -/
theorem quo_bd {K L : Nat} {x y : Option Nat} (hx : Bd K x) (hy : Lb L y) (hK : K ≤ 1022) : Bd (K + 1) (fO .quo x y) := by
  obtain ⟨a, s, m, i, rfl, ha, hi, h1⟩ := hx
  obtain ⟨b, n, j, rfl, hb, hj, hn, hl, h2⟩ := hy
  have hbd : (2 * ((m <<< (54 + n.log2 - m.log2)) / n) + ((m <<< (54 + n.log2 - m.log2)) % n != 0).toNat) = 0 ∨
      i - j - (54 + n.log2 - m.log2 : Nat) - 1 + (2 * ((m <<< (54 + n.log2 - m.log2)) / n) + ((m <<< (54 + n.log2 - m.log2)) % n != 0).toNat).log2 < (K : Nat) := by
    by_cases hm : m = 0
    · left; subst hm; simp
    · generalize hq : 2 * ((m <<< (54 + n.log2 - m.log2)) / n) + ((m <<< (54 + n.log2 - m.log2)) % n != 0).toNat = Q
      by_cases hQ : Q = 0
      · exact .inl hQ
      · right
        have h1' := h1.resolve_left hm
        have hmu := (log2_bounds hm).2
        have hnl := (log2_bounds hn).1
        have hB := Bool.toNat_le ((m <<< (54 + n.log2 - m.log2)) % n != 0)
        have hmore : n.log2 + 54 ≤ m.log2 + (54 + n.log2 - m.log2) := by omega
        generalize 54 + n.log2 - m.log2 = more at *
        have hd : m <<< more / n < 2 ^ (m.log2 + 1 + more - n.log2) := by
          rw [Nat.shiftLeft_eq]
          refine (Nat.div_lt_iff_lt_mul (by omega)).2 ?_
          have e1 : m * 2 ^ more < 2 ^ (m.log2 + 1) * 2 ^ more := Nat.mul_lt_mul_of_pos_right hmu (Nat.two_pow_pos _)
          have e2 : 2 ^ (m.log2 + 1) * 2 ^ more = 2 ^ (m.log2 + 1 + more - n.log2) * 2 ^ n.log2 := by
            rw [← Nat.pow_add, ← Nat.pow_add]; congr 1; omega
          have e3 : 2 ^ (m.log2 + 1 + more - n.log2) * 2 ^ n.log2 ≤ 2 ^ (m.log2 + 1 + more - n.log2) * n := Nat.mul_le_mul_left _ hnl
          omega
        have hQl : Q < 2 ^ (m.log2 + 1 + more - n.log2 + 1) := by rw [Nat.pow_succ]; omega
        have := log2_lt_of hQ hQl
        omega
  obtain ⟨p, e, h3, h4, h5, _⟩ := nearest_bd (s ^^ false) _ (i - j - (54 + n.log2 - m.log2 : Nat) - 1) K hK hbd
  exact ⟨_, _, p, e, fO_quo ha hb hn, h3, h4, h5⟩

/-- Nought by a number that is not nought. -/
theorem zero_quo {b : Nat} {n : Nat} {j : Int} (hb : double.read b = .number false n j) (hn : n ≠ 0) : fO .quo (some 0) (some b) = some 0 := by
  have ha : double.read 0 = .number false 0 (-1074) := by decide +kernel
  rw [fO_quo ha hb hn]
  simp only [Nat.zero_shiftLeft, Nat.zero_div, Nat.zero_mod, Nat.mul_zero, Bool.xor_self]
  rw [show (0 != 0 : Bool).toNat = 0 from rfl, Nat.zero_add, nearest_zero, word_false_zero]

/-- A quotient of numbers is no NaN. -/
theorem quo_some {a b : Nat} {s t : Bool} {m n : Nat} {i j : Int} (ha : double.read a = .number s m i) (hb : double.read b = .number t n j) (hn : n ≠ 0) : ∃ c, fO .quo (some a) (some b) = some c ∧ ab c = some c :=
  ⟨_, fO_quo ha hb hn, ab_nearest _ _ _⟩

/-! ### The root -/
theorem rootFrom_lt (n : Nat) : ∀ todo root, Datum.rootFrom n todo root < root + 2 ^ todo
  | 0, root => by show root < root + 2 ^ 0; omega
  | todo + 1, root => by
    show Datum.rootFrom n todo (if (root + 1 <<< todo) * (root + 1 <<< todo) ≤ n then root + 1 <<< todo else root) < root + 2 ^ (todo + 1)
    have e : (1 : Nat) <<< todo = 2 ^ todo := by rw [Nat.shiftLeft_eq, Nat.one_mul]
    rw [Nat.pow_succ, e]
    split
    · have h := rootFrom_lt n todo (root + 2 ^ todo)
      omega
    · have h := rootFrom_lt n todo root
      omega

theorem log2_shift {m : Nat} (hm : m ≠ 0) (k : Nat) : (m <<< k).log2 = m.log2 + k := by
  obtain ⟨h1, h2⟩ := log2_bounds hm
  rw [Nat.shiftLeft_eq]
  have hne : m * 2 ^ k ≠ 0 := Nat.mul_ne_zero hm (Nat.ne_of_gt (Nat.two_pow_pos _))
  have a : m * 2 ^ k < 2 ^ (m.log2 + k + 1) := by
    rw [show m.log2 + k + 1 = (m.log2 + 1) + k by omega, Nat.pow_add]
    exact Nat.mul_lt_mul_of_pos_right h2 (Nat.two_pow_pos _)
  have b : 2 ^ (m.log2 + k) ≤ m * 2 ^ k := by rw [Nat.pow_add]; exact Nat.mul_le_mul_right _ h1
  have := log2_lt_of hne a
  have := le_log2_of hne b
  omega

theorem sqrt_pos {a : Nat} {m : Nat} {i : Int} {K : Nat} (ha : double.read a = .number false m i) (hi : -1074 ≤ i) (hm : m ≠ 0) (h : i + m.log2 < K) (hK : K ≤ 1022) (hK0 : 1 ≤ K) :
    ∃ c p e, sqrtO (some a) = some c ∧ double.read c = .number false p e ∧ (-1074 ≤ e ∧ e ≤ (K + 1 : Nat)) ∧ p ≠ 0 ∧ e + p.log2 < (K + 1 : Nat) := by
  have key : ∃ mag place, sqrtO (some a) = some (double.nearest false mag place) ∧ mag ≠ 0 ∧ place + mag.log2 < K ∧ -1022 ≤ place + mag.log2 := by
    have hq : sqrtO (some a) = ((double.read a).root 54).map double.write := rfl
    rw [hq, ha]
    unfold Datum.root
    simp only [if_neg hm, Bool.false_eq_true, if_false, Option.map_some]
    generalize hmore : 2 * 54 - m.log2 + ((i - (2 * 54 - m.log2 : Nat)) % 2).toNat = more
    have hmb : more ≤ 109 := by omega
    have hln := log2_shift hm more
    have hnz : m <<< more ≠ 0 := by rw [Nat.shiftLeft_eq]; exact Nat.mul_ne_zero hm (Nat.ne_of_gt (Nat.two_pow_pos _))
    have hw := rootFrom_lt (m <<< more) ((m <<< more).log2 / 2 + 1) 0
    rw [hln] at hw ⊢
    generalize hn : m <<< more = n at *
    generalize hwh : Datum.rootFrom n ((m.log2 + more) / 2 + 1) 0 = whole at *
    refine ⟨_, _, rfl, ?_, ?_⟩
    · by_cases h0 : whole = 0
      · subst h0
        have : (0 * 0 != n) = true := by rw [bne_iff_ne]; omega
        rw [this]; decide
      · omega
    · have hB := Bool.toNat_le (whole * whole != n)
      have hml : 2 * whole + (whole * whole != n).toNat < 2 ^ ((m.log2 + more) / 2 + 2) := by
        rw [show (m.log2 + more) / 2 + 2 = (m.log2 + more) / 2 + 1 + 1 by omega, Nat.pow_succ]; omega
      have hne : 2 * whole + (whole * whole != n).toNat ≠ 0 := by
        by_cases h0 : whole = 0
        · subst h0
          have : (0 * 0 != n) = true := by rw [bne_iff_ne]; omega
          rw [this]; decide
        · omega
      have := log2_lt_of hne hml
      omega
  obtain ⟨mag, place, h1, h2, h3, h4⟩ := key
  obtain ⟨p, e, g1, g2, g3, _, _, g6⟩ := nearest_bd false mag place K hK (.inr h3)
  exact ⟨_, p, e, h1, g1, g2, g6 h2 h4, g3.resolve_left (g6 h2 h4)⟩

theorem sqrt_zero : sqrtO (some 0) = some 0 := by decide +kernel

theorem sqrt_bdp {K : Nat} {x : Option Nat} (hx : BdP K x) (hK : K ≤ 1022) (hK0 : 1 ≤ K) : BdP (K + 1) (sqrtO x) := by
  obtain ⟨a, m, i, rfl, ha, hi, h1⟩ := hx
  by_cases hm : m = 0
  · subst hm
    have hq : sqrtO (some a) = ((double.read a).root 54).map double.write := rfl
    have hr : (Datum.number false 0 i).root 54 = some (.number false 0 i) := rfl
    rw [hq, ha, hr]
    refine ⟨double.nearest false 0 i, 0, -1074, rfl, ?_, by omega, .inl rfl⟩
    rw [nearest_zero, read_zero]
  · obtain ⟨c, p, e, g1, g2, g3, g4, g5⟩ := sqrt_pos ha hi.1 hm (h1.resolve_left hm) hK hK0
    exact ⟨c, p, e, g1, g2, g3, .inr g5⟩

/-! ### Comparisons -/
theorem cmp_num {a b : Nat} {s t : Bool} {m n : Nat} {i j : Int} (ha : double.read a = .number s m i) (hb : double.read b = .number t n j) :
    cmpO (some a) (some b) = some (compare (signed s m (i - min i j).toNat) (signed t n (j - min i j).toNat)) := by
  show (double.read a).order (double.read b) = _
  rw [ha, hb]; rfl

theorem signed_zero (s : Bool) (k : Nat) : signed s 0 k = 0 := by unfold signed; simp
theorem signed_false (m k : Nat) : 0 ≤ signed false m k := by
  show (0 : Int) ≤ ((m <<< k : Nat) : Int)
  exact Int.natCast_nonneg _
theorem signed_pos {m : Nat} (k : Nat) (hm : m ≠ 0) : 0 < signed false m k := by
  have : 0 < m <<< k := by rw [Nat.shiftLeft_eq]; exact Nat.mul_pos (by omega) (Nat.two_pow_pos _)
  show (0 : Int) < ((m <<< k : Nat) : Int)
  omega

/-- Two zeros. -/
theorem ge_zz {x y : Option Nat} (hx : Z x) (hy : Z y) : geO x y = true := by
  obtain ⟨a, s, i, rfl, ha⟩ := hx
  obtain ⟨b, t, j, rfl, hb⟩ := hy
  unfold geO
  rw [cmp_num ha hb, signed_zero, signed_zero]
  rfl

/-- Nought is at most a number that is not below nought. -/
theorem le_zero {K : Nat} {y : Option Nat} {x : Option Nat} (hx : Z x) (hy : BdP K y) : leO x y = true := by
  obtain ⟨a, s, i, rfl, ha⟩ := hx
  obtain ⟨b, n, j, rfl, hb, _, _⟩ := hy
  unfold leO
  rw [cmp_num ha hb, signed_zero]
  have := signed_false n (j - min i j).toNat
  rcases Int.lt_or_eq_of_le this with h | h
  · rw [Int.compare_eq_lt.2 h]; rfl
  · rw [← h]; rfl

theorem ge_zero {K : Nat} {y : Option Nat} {x : Option Nat} (hx : BdP K x) (hy : Z y) : geO x y = true := by
  obtain ⟨a, n, j, rfl, ha, _, _⟩ := hx
  obtain ⟨b, s, i, rfl, hb⟩ := hy
  unfold geO
  rw [cmp_num ha hb, signed_zero]
  have := signed_false n (j - min j i).toNat
  rcases Int.lt_or_eq_of_le this with h | h
  · rw [Int.compare_eq_gt.2 h]; rfl
  · rw [← h]; rfl

theorem eq_self {K : Nat} {x : Option Nat} (hx : Bd K x) : eqO x x = true := by
  obtain ⟨a, s, m, i, rfl, ha, _⟩ := hx
  unfold eqO
  rw [cmp_num ha ha, Int.compare_eq_eq.2 rfl]
  rfl

end Go.Flt

/-
  Plain facts on float64 for FnCachedKeptThroughAddedLookups (seat b6615502a): a positive number by itself is 1. No Go in sight.
-/
import Derived.Laws.FloatArith
namespace Go.Proofs.Qxb6615502a.Cached

theorem d_least : Ieee.double.leastPlace = -1074 := by decide +kernel
theorem d_binade : Ieee.double.binade = 4503599627370496 := by decide +kernel
theorem d_inf : Ieee.double.infRung = 9218868437227405312 := by decide +kernel
theorem d_sign : Ieee.double.signWeight = 9223372036854775808 := by decide +kernel
theorem d_frac : Ieee.double.fractionBits = 52 := rfl

theorem cut_zero (way : Ieee.Toward) (neg : Bool) (n : Nat) : way.cut neg n 0 = n := by
  unfold Ieee.Toward.cut
  simp only [Nat.zero_min, Nat.shiftLeft_zero, Nat.div_one, Nat.mod_one]
  cases way <;> simp

theorem p52 : (2:Nat) ^ 52 = 4503599627370496 := by decide +kernel
theorem e5 (L : Nat) (h : L ≤ 52) : 2 ^ L * 2 ^ (52 - L) = 4503599627370496 := by
  rw [← Nat.pow_add, ← p52]; congr 1; omega
theorem e6 (L : Nat) (h : L ≤ 52) : 2 ^ (L+1) * 2 ^ (52 - L) = 9007199254740992 := by
  rw [Nat.pow_succ, Nat.mul_right_comm, e5 L h]
theorem fin (X L : Nat) (hl : L < 31) (a : 4503599627370496 ≤ X) (b : X < 9007199254740992) : 4503599627370496 ≤ min ((L + 1022) * 4503599627370496 + X) 9218868437227405312 ∧ min ((L + 1022) * 4503599627370496 + X) 9218868437227405312 < 9218868437227405312 := by
  omega

theorem nearest_pos (n : Nat) (h0 : 0 < n) (h1 : n < 2147483648) :
    4503599627370496 ≤ Ieee.double.nearest false n 0 ∧ Ieee.double.nearest false n 0 < 9218868437227405312 := by
  have hl : n.log2 < 31 := (Nat.log2_lt (by omega)).2 (by simpa using h1)
  have h2 : 2 ^ n.log2 ≤ n := Nat.log2_self_le (by omega)
  have h3 : n < 2 ^ (n.log2 + 1) := Nat.lt_log2_self
  generalize hL : n.log2 = L at *
  unfold Ieee.Format.nearest
  rw [if_neg (by omega)]
  simp only [hL, d_least, d_binade, d_inf, d_frac, Ieee.Format.word, Bool.false_eq_true, if_false]
  have g1 : max ((0:Int) + (L:Int) - ((52:Nat):Int)) (-1074) = (L:Int) - 52 := by omega
  rw [g1]
  have g2 : ((0:Int) - ((L:Int) - 52)).toNat = 52 - L := by omega
  have g3 : ((L:Int) - 52 - 0).toNat = 0 := by omega
  have g4 : ((L:Int) - 52 - (-1074)).toNat = L + 1022 := by omega
  rw [g2, g3, g4, cut_zero, Nat.shiftLeft_eq]
  have e7 : 2 ^ L * 2 ^ (52 - L) ≤ n * 2 ^ (52 - L) := Nat.mul_le_mul_right _ h2
  have e8 : n * 2 ^ (52 - L) < 2 ^ (L+1) * 2 ^ (52 - L) := Nat.mul_lt_mul_of_pos_right h3 (Nat.two_pow_pos _)
  rw [e5 L (by omega)] at e7
  rw [e6 L (by omega)] at e8
  exact fin _ L hl e7 e8

theorem read_normal (r : Nat) (h0 : 4503599627370496 ≤ r) (h1 : r < 9218868437227405312) : ∃ m i, 0 < m ∧ Ieee.double.read r = .number false m i := by
  refine ⟨4503599627370496 + r % 4503599627370496, -1074 + ((r / 4503599627370496 - 1 : Nat) : Int), by omega, ?_⟩
  unfold Ieee.Format.read
  simp only [d_least, d_binade, d_inf, d_sign]
  have a1 : r / 9223372036854775808 = 0 := by omega
  have a2 : r % 9223372036854775808 = r := by omega
  rw [a1, a2, if_neg (by omega), if_pos h1]
  rfl

theorem quo_self (r : Nat) (h0 : 4503599627370496 ≤ r) (h1 : r < 9218868437227405312) : Ieee.double.div r r = some 4607182418800017408 := by
  obtain ⟨m, i, hm, hr⟩ := read_normal r h0 h1
  have b1 : (m <<< 54) / m = 18014398509481984 := by
    have : (2:Nat) ^ 54 = 18014398509481984 := by decide +kernel
    rw [Nat.shiftLeft_eq, this, Nat.mul_div_cancel_left _ hm]
  have b2 : (m <<< 54) % m = 0 := by rw [Nat.shiftLeft_eq, Nat.mul_mod_right]
  have b3 : Ieee.double.fractionBits + 2 + m.log2 - m.log2 = 54 := by rw [d_frac]; omega
  have b4 : i - i - ((54:Nat):Int) - 1 = -55 := by omega
  unfold Ieee.Format.div
  rw [hr]
  unfold Ieee.Datum.quotient
  simp only []
  rw [if_neg (by omega), b3, b1, b2, b4]
  decide +kernel

theorem mul_mil : Ieee.double.mul 4607182418800017408 4696837146684686336 = some 4696837146684686336 := by decide +kernel
theorem int_mil : floatToIntVal .f64 4696837146684686336 .u64 = some 1000000 := by decide +kernel

theorem quo_int (h : Int) (h0 : 0 < h) (h1 : h < 2147483648) : floatBits .quo .f64 (floatOfInt .f64 h) (floatOfInt .f64 h) = some 4607182418800017408 := by
  have e : floatOfInt .f64 h = Ieee.double.nearest false h.natAbs 0 := by
    show Ieee.double.nearest (decide (h < 0)) h.natAbs 0 = _
    rw [show decide (h < 0) = false from by simp; omega]
  obtain ⟨g0, g1⟩ := nearest_pos h.natAbs (by omega) (by omega)
  show Ieee.double.div _ _ = _
  rw [e]
  exact quo_self _ g0 g1

end Go.Proofs.Qxb6615502a.Cached

/-
  The contracts of package math's functions on the road (seat b6614725a): each result is a plain function of the arguments, up to the bits of a NaN.
-/
import Derived.Test.Qxb6614725aRows
import Derived.Test.Qxb6614725aFlt
import Derived.WalkKit
import Derived.ProofKit
import Derived.Laws.Externs
import Derived.Laws.BitsAllLaws
namespace Go.Proofs.Qxb6614725a
open Go.ChangeShapes Go.WideShapes Go.ChangeAt Go.RowKit Go.Flt
attribute [local go_sem ↓] ord_le ord_ge ord_ne
attribute [local go_sem] ord_lt ord_gt ord_eq

/-- A constant. -/
abbrev K (n : Nat) : Option Nat := ab n

def xatanO (x : Option Nat) : Option Nat :=
  let z := fO .mul x x
  let num := fO .mul z (fO .add (fO .mul (fO .add (fO .mul (fO .add (fO .mul (fO .add (fO .mul (K 13829429103926125972) z) (K 13848613196940411002)) z) (K 13858350711815275123)) z) (K 13861719834326579749)) z) (K 13857635882265799822))
  let den := fO .add (fO .mul (fO .add (fO .mul (fO .add (fO .mul (fO .add (fO .mul (fO .add z (K 4627690253511319612)) z) (K 4640010388282866213)) z) (K 4646322940342877755)) z) (K 4647246694406179306)) z) (K 4641049159275471596)
  fO .add (fO .mul x (fO .quo num den)) x

/-- The end of a walk over floats alone. -/
def Gives (o : Option Nat) (w : World) (e : Ending) (w' : World) : Prop := (∃ r, e = .returned (.float .f64 r) ∧ ab r = o ∧ r < two64) ∧ ∃ n, w' = w.drewN n

def satanO (x : Option Nat) : Option Nat :=
  if leO x (K 4604119971053405471) then xatanO x
  else if gtO x (K 4612618744449965542) then fO .add (fO .sub (K 4609753056924675352) (xatanO (fO .quo (K 4607182418800017408) x))) (K 4364452196894661639)
  else fO .add (fO .add (K 4605249457297304856) (xatanO (fO .quo (fO .sub x (K 4607182418800017408)) (fO .add x (K 4607182418800017408))))) (K 4359948597267291143)

def negO (x : Option Nat) : Option Nat := x.map (Op.negFloat .f64)
def absO (x : Option Nat) : Option Nat := x.map (· % 9223372036854775808)
/-- The magnitude of c, the sign of y. -/
def csO (c : Nat) (y : Option Nat) : Option Nat := y.map fun b => c % 9223372036854775808 + b / 9223372036854775808 * 9223372036854775808
def signO (x : Option Nat) : Bool := x.any fun b => decide (9223372036854775808 ≤ b)

def atanO (x : Option Nat) : Option Nat :=
  if eqO x (K 0) then x else if gtO x (K 0) then satanO x else negO (satanO (negO x))

def infO (x : Option Nat) : Bool := gtO (absO x) (K 9218868437227405311)

def atan2O (y x : Option Nat) : Option Nat :=
  if (!eqO y y) || (!eqO x x) then none
  else if eqO y (K 0) then (if geO x (K 0) && !signO x then csO 0 y else csO 4614256656552045848 y)
  else if eqO x (K 0) then csO 4609753056924675352 y
  else if infO x then
    (if gtO x (K 9218868437227405311) then (if infO y then csO 4605249457297304856 y else csO 0 y)
     else (if infO y then csO 4612488097114038738 y else csO 4614256656552045848 y))
  else if infO y then csO 4609753056924675352 y
  else if ltO x (K 0) then (if leO (atanO (fO .quo y x)) (K 0) then fO .add (atanO (fO .quo y x)) (K 4614256656552045848) else fO .sub (atanO (fO .quo y x)) (K 4614256656552045848))
  else atanO (fO .quo y x)

def asinAbs (x : Option Nat) : Option Nat :=
  if gtO x (K 4604480259023595110) then fO .sub (K 4609753056924675352) (satanO (fO .quo (sqrtO (fO .sub (K 4607182418800017408) (fO .mul x x))) x))
  else satanO (fO .quo x (sqrtO (fO .sub (K 4607182418800017408) (fO .mul x x))))

def asinO (x : Option Nat) : Option Nat :=
  if eqO x (K 0) then x
  else if ltO x (K 0) then (if gtO (negO x) (K 4607182418800017408) then none else negO (asinAbs (negO x)))
  else (if gtO x (K 4607182418800017408) then none else asinAbs x)

theorem neg_lt (x : Nat) (h : x < two64) : Op.negFloat .f64 x < two64 := by
  show x ^^^ 2 ^ 63 < two64
  have e : two64 = 2 ^ 64 := by decide +kernel
  rw [e] at *
  exact Nat.xor_lt_two_pow h (by decide +kernel)

theorem neg_mod (x : Nat) : Op.negFloat .f64 x % 9223372036854775808 = x % 9223372036854775808 := by
  show (x ^^^ 2 ^ 63) % 9223372036854775808 = _
  have e : 9223372036854775808 = 2 ^ 63 := by decide +kernel
  rw [e, Nat.xor_mod_two_pow, Nat.mod_self, Nat.xor_zero]

theorem ab_neg (x : Nat) : ab (Op.negFloat .f64 x) = negO (ab x) := by
  by_cases h : x % 9223372036854775808 ≤ 9218868437227405312
  · rw [ab_some h, ab_some (by rw [neg_mod]; exact h)]; rfl
  · rw [ab_none (b := x) (by omega), ab_none (by rw [neg_mod]; omega)]; rfl

theorem ab_abs (x : Nat) : ab (x % 9223372036854775808) = absO (ab x) := by
  by_cases h : x % 9223372036854775808 ≤ 9218868437227405312
  · rw [ab_some h, ab_some (by rw [Nat.mod_mod]; exact h)]; rfl
  · rw [ab_none (b := x) (by omega), ab_none (by rw [Nat.mod_mod]; omega)]; rfl

theorem ab_cs (c y : Nat) (hc : c % 9223372036854775808 ≤ 9218868437227405312) (hy : ab y = some y) : ab (c % 9223372036854775808 + y / 9223372036854775808 * 9223372036854775808) = csO c (ab y) := by
  rw [hy]
  refine ab_some ?_
  rw [Nat.add_mul_mod_self_right, Nat.mod_mod]
  exact hc

section
variable (w : World)
theorem run_bits (b : Nat) : (callFunc 56 #[.float .f64 b]).run Try.prog w = .ok (.value (.int .u64 b)) w := by
  rw [run_callFunc_extern Try.func56 (by kernel_rfl) (by kernel_rfl) (by kernel_rfl) (e := Extern.MathFloatBits.float64bits) (by kernel_rfl)]
  rfl
theorem run_frombits (n : Int) : (callFunc 55 #[.int .u64 n]).run Try.prog w = .ok (.value (.float .f64 n.toNat)) w := by
  rw [run_callFunc_extern Try.func55 (by kernel_rfl) (by kernel_rfl) (by kernel_rfl) (e := Extern.MathFloatBits.float64frombits) (by kernel_rfl)]
  rfl
theorem run_sqrt (x : Nat) : ∃ r n, (callFunc 61 #[.float .f64 x]).run Try.prog w = .ok (.value (.float .f64 r)) (w.drewN n) ∧ ab r = sqrtO (ab x) ∧ r < two64 := by
  rw [run_callFunc_extern Try.func61 (by kernel_rfl) (by kernel_rfl) (by kernel_rfl) (e := Extern.MathSqrt.sqrt) (by kernel_rfl), sqrtO_ab]
  have e : Extern.MathSqrt.sqrt #[.float .f64 x] = (match Ieee.double.sqrt x with | some r => pure (.float .f64 r) | none => do pure (.float .f64 (← choose (.nanBits .f64 x x)))) := rfl
  rw [e]
  cases h : Ieee.double.sqrt x with
  | some r => exact ⟨r, 0, rfl, sqrt_ab h, by have := Ieee.double.sqrt_lt h; simpa [Ieee.Format.width, Ieee.double] using this⟩
  | none => exact ⟨nanOf (w.tape w.drawn (.nanBits .f64 x x)), 1, rfl, (nanOf_ab _).1, (nanOf_ab _).2⟩
end

theorem upon_sqrt {o : Oper} {a : Act} {k : Act → World → Prop} {Q : Exit → Act → World → Prop} {x : Nat} {w : World}
    (h : ∀ r n, ab r = sqrtO (ab x) → r < two64 → Oper.upon Try.prog o a k Q (.ok (.value (.float .f64 r)) (w.drewN n))) : Oper.upon Try.prog o a k Q (Sem.run Try.prog (callFunc 61 #[.float .f64 x]) w) := by
  obtain ⟨r, n, h1, h2, h3⟩ := run_sqrt w x
  rw [h1]
  exact h r n h2 h3

attribute [local go_sem] run_bits run_frombits

theorem bits_abs' (x : Nat) (h : x < two64) : bits .andNot .u64 (x : Int) 9223372036854775808 = ((x % 9223372036854775808 : Nat) : Int) := by
  have e := u64_andNot_nat x 9223372036854775808 h (by omega)
  have e2 : x &&& (18446744073709551615 - 9223372036854775808) = x % 9223372036854775808 := by
    have := Nat.and_two_pow_sub_one_eq_mod x 63
    have h1 : (2:Nat) ^ 63 = 9223372036854775808 := by decide +kernel
    rw [h1] at this
    exact this
  rw [e2] at e
  exact e
theorem bits_abs (x : Nat) (h : x < two64) : (bits .andNot .u64 (x : Int) 9223372036854775808).toNat = x % 9223372036854775808 := by
  rw [bits_abs' x h]; exact Int.toNat_natCast _
theorem bits_top (y : Nat) (h : y < two64) : bits .and .u64 (y : Int) 9223372036854775808 = ((y / 9223372036854775808 * 9223372036854775808 : Nat) : Int) := by
  have e := u64_and_nat y 9223372036854775808 h (by omega)
  have e2 : y &&& 9223372036854775808 = y / 9223372036854775808 * 9223372036854775808 := by
    have h1 : (2:Nat) ^ 63 = 9223372036854775808 := by decide +kernel
    have h2 : y / 9223372036854775808 < 2 := by unfold two64 at h; omega
    have h4 : y.testBit 63 = decide (y / 9223372036854775808 % 2 = 1) := by rw [Nat.testBit_eq_decide_div_mod_eq, h1]
    have h3 : y / 9223372036854775808 = 0 ∨ y / 9223372036854775808 = 1 := by omega
    apply Nat.eq_of_testBit_eq
    intro i
    rw [← h1, Nat.testBit_and, Nat.testBit_two_pow, h1]
    by_cases hi : 63 = i
    · subst hi
      rw [h4]
      rcases h3 with h3 | h3 <;> rw [h3] <;> decide +kernel
    · simp only [hi, decide_false, Bool.and_false]
      rcases h3 with h3 | h3
      · rw [h3]; simp
      · rw [h3, Nat.one_mul, ← h1, Nat.testBit_two_pow]; simp [hi]
  rw [e2] at e
  exact e
theorem bits_cs (c y : Nat) (hc : c < two64) (hy : y < two64) : (bits .or .u64 (bits .andNot .u64 (c : Int) 9223372036854775808) (bits .and .u64 (y : Int) 9223372036854775808)).toNat = c % 9223372036854775808 + y / 9223372036854775808 * 9223372036854775808 := by
  unfold two64 at hc hy
  rw [bits_abs' c hc, bits_top y hy, u64_or_nat _ _ (by omega) (by omega), Int.toNat_natCast, Nat.or_comm]
  have h1 : (2:Nat) ^ 63 = 9223372036854775808 := by decide +kernel
  have := Nat.two_pow_add_eq_or_of_lt (i := 63) (b := c % 9223372036854775808) (by rw [h1]; omega) (y / 9223372036854775808)
  rw [h1] at this
  rw [Nat.mul_comm (y / 9223372036854775808), ← this, Nat.add_comm]
theorem sign_wrap (x : Nat) (h : x < two64) : decide (wrap64 (x : Int) < 0) = decide (9223372036854775808 ≤ x) := by
  unfold two64 at h
  unfold wrap64
  congr 1
  apply propext
  omega

set_option maxHeartbeats 1000000 in
theorem xatan_any (x : Nat) (w : World) : Calls Try.prog 64 #[.float .f64 x] w (Gives (xatanO (ab x)) w) := by
  go_enter Try.func64, Try.ntmps64
  go_wp2_with (refine wpList_arith rfl _ _ _ _ _ rfl rfl _ _ (by rfl) (by rfl) ?_; intro r n hr hb)
  go_ret
  exact ⟨⟨_, rfl, by simp only [xatanO, *], hb⟩, _, rfl⟩

theorem sqrt_any (x : Nat) (w : World) : Calls Try.prog 57 #[.float .f64 x] w (Gives (sqrtO (ab x)) w) := by
  go_enter Try.func57, Try.ntmps57
  go_wp2_with (refine upon_sqrt ?_; intro r n hr hb)
  go_ret
  exact ⟨⟨_, rfl, hr, hb⟩, _, rfl⟩

theorem abs_any (x : Nat) (w : World) (hx : x < two64) : Calls Try.prog 49 #[.float .f64 x] w (Gives (absO (ab x)) w) := by
  go_enter Try.func49, Try.ntmps49
  go_wp2
  go_ret
  refine ⟨⟨x % 9223372036854775808, congrArg (fun n => Ending.returned (.float .f64 n)) (bits_abs x hx), ab_abs x, by unfold two64 at *; omega⟩, 0, rfl⟩

theorem isnan_any (x : Nat) (w : World) : Calls Try.prog 65 #[.float .f64 x] w fun e w' => e = .returned (.bool (!eqO (ab x) (ab x))) ∧ w' = w := by
  go_enter Try.func65, Try.ntmps65
  go_wp2
  go_ret
  exact ⟨rfl, rfl⟩

theorem signbit_any (x : Nat) (w : World) (hx : x < two64) : Calls Try.prog 66 #[.float .f64 x] w fun e w' => e = .returned (.bool (decide (9223372036854775808 ≤ x))) ∧ w' = w := by
  go_enter Try.func66, Try.ntmps66
  go_wp2
  go_ret
  exact ⟨congrArg (fun b => Ending.returned (.bool b)) (sign_wrap x hx), rfl⟩

theorem copysign_any (c y : Nat) (w : World) (hc : c < two64) (hy : y < two64) : Calls Try.prog 67 #[.float .f64 c, .float .f64 y] w fun e w' => e = .returned (.float .f64 (c % 9223372036854775808 + y / 9223372036854775808 * 9223372036854775808)) ∧ w' = w := by
  go_enter Try.func67, Try.ntmps67
  go_wp2
  go_ret
  exact ⟨congrArg (fun n => Ending.returned (.float .f64 n)) (bits_cs c y hc hy), rfl⟩

theorem nan_any (w : World) : Calls Try.prog 59 #[] w fun e w' => e = .returned (.float .f64 9221120237041090561) ∧ w' = w := by
  go_enter Try.func59, Try.ntmps59
  go_wp2
  go_ret
  exact ⟨rfl, rfl⟩

set_option maxHeartbeats 1000000 in
theorem satan_any (x : Nat) (w : World) : Calls Try.prog 60 #[.float .f64 x] w (Gives (satanO (ab x)) w) := by
  cases h1 : leO (ab x) (K 4604119971053405471)
  · cases h2 : gtO (ab x) (K 4612618744449965542)
    · go_enter Try.func60, Try.ntmps60
      go_wp2_with (first
        | (refine wpList_arith rfl _ _ _ _ _ rfl rfl _ _ (by rfl) (by rfl) ?_; intro r n hr hb)
        | (go_at_call 64; refine (xatan_any _ _).mono ?_; rintro e w' ⟨⟨r, rfl, hr, hb⟩, n, rfl⟩))
      go_ret
      exact ⟨⟨_, rfl, by simp [satanO, *], hb⟩, _, rfl⟩
    · go_enter Try.func60, Try.ntmps60
      go_wp2_with (first
        | (refine wpList_arith rfl _ _ _ _ _ rfl rfl _ _ (by rfl) (by rfl) ?_; intro r n hr hb)
        | (go_at_call 64; refine (xatan_any _ _).mono ?_; rintro e w' ⟨⟨r, rfl, hr, hb⟩, n, rfl⟩))
      go_ret
      exact ⟨⟨_, rfl, by simp [satanO, *], hb⟩, _, rfl⟩
  · go_enter Try.func60, Try.ntmps60
    go_wp2_with (first
      | (go_at_call 64; refine (xatan_any _ _).mono ?_; rintro e w' ⟨⟨r, rfl, hr, hb⟩, n, rfl⟩))
    go_ret
    exact ⟨⟨_, rfl, by simp [satanO, *], hb⟩, _, rfl⟩

end Go.Proofs.Qxb6614725a

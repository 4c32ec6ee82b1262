/-
  float64 UP TO THE BITS OF A NaN: 'ab b' is 'none' for a NaN, 'some b' for every other word. Each operation of the model's, whatever NaN the tape draws, gives a word whose 'ab' is a plain function of the operands' 'ab'. (seat b6614725a)
-/
import Derived.Laws.FloatArith
import Derived.Deep.Draws
import Derived.Tactics2
namespace Go.Flt
open Go

abbrev two64 : Nat := 18446744073709551616

def ab (b : Nat) : Option Nat := if (Ieee.double.read b).isNaN then none else some b

theorem d_least : Ieee.double.leastPlace = -1074 := by decide +kernel
theorem d_binade : Ieee.double.binade = 4503599627370496 := by decide +kernel
theorem d_inf : Ieee.double.infRung = 9218868437227405312 := by decide +kernel
theorem d_sign : Ieee.double.signWeight = 9223372036854775808 := by decide +kernel
theorem d_frac : Ieee.double.fractionBits = 52 := rfl

theorem isNaN_read (b : Nat) : (Ieee.double.read b).isNaN = decide (9218868437227405312 < b % 9223372036854775808) := by
  unfold Ieee.Format.read
  simp only [d_least, d_binade, d_inf, d_sign]
  generalize b % 9223372036854775808 = r
  by_cases h1 : r < 4503599627370496
  · rw [if_pos h1]; simp only [Ieee.Datum.isNaN]; symm; rw [decide_eq_false_iff_not]; omega
  · rw [if_neg h1]
    by_cases h2 : r < 9218868437227405312
    · rw [if_pos h2]; simp only [Ieee.Datum.isNaN]; symm; rw [decide_eq_false_iff_not]; omega
    · rw [if_neg h2]
      by_cases h3 : r = 9218868437227405312
      · rw [if_pos h3]; simp only [Ieee.Datum.isNaN]; symm; rw [decide_eq_false_iff_not]; omega
      · rw [if_neg h3]; simp only [Ieee.Datum.isNaN]; symm; rw [decide_eq_true_eq]; omega

theorem ab_none {b : Nat} (h : 9218868437227405312 < b % 9223372036854775808) : ab b = none := by
  unfold ab; rw [isNaN_read, decide_eq_true h]; rfl
theorem ab_some {b : Nat} (h : b % 9223372036854775808 ≤ 9218868437227405312) : ab b = some b := by
  unfold ab; rw [isNaN_read, decide_eq_false (by omega)]; rfl

theorem word_mod (s : Bool) {r : Nat} (h : r ≤ 9218868437227405312) : Ieee.double.word s r % 9223372036854775808 = r := by
  unfold Ieee.Format.word
  rw [d_sign]
  split <;> omega

theorem nearest_word (s : Bool) (m : Nat) (e : Int) : ∃ r, r ≤ 9218868437227405312 ∧ Ieee.double.nearest s m e = Ieee.double.word s r := by
  unfold Ieee.Format.nearest
  split
  · exact ⟨0, by omega, rfl⟩
  · refine ⟨_, ?_, rfl⟩
    rw [d_inf]
    exact Nat.min_le_right _ _

theorem ab_nearest (s : Bool) (m : Nat) (e : Int) : ab (Ieee.double.nearest s m e) = some (Ieee.double.nearest s m e) := by
  obtain ⟨r, hr, h⟩ := nearest_word s m e
  rw [h]
  exact ab_some (by rw [word_mod s hr]; exact hr)

theorem ab_inf (s : Bool) : ab (Ieee.double.word s Ieee.double.infRung) = some (Ieee.double.word s Ieee.double.infRung) := by
  rw [d_inf]
  exact ab_some (by rw [word_mod s (Nat.le_refl _)]; omega)

theorem ab_write {d : Ieee.Datum} (h : d.isNaN = false) : ab (Ieee.double.write d) = some (Ieee.double.write d) := by
  cases d with
  | number s m e => exact ab_nearest s m e
  | infinity s => exact ab_inf s
  | nan s t => cases h

theorem sum_not_nan {x y d : Ieee.Datum} (h : x.sum y = some d) : d.isNaN = false := by
  unfold Ieee.Datum.sum at h
  split at h <;> (try (cases h; done))
  all_goals first | (split at h <;> first | (cases h; rfl; done) | (cases h; done)) | (cases h; rfl)
theorem product_not_nan {x y d : Ieee.Datum} (h : x.product y = some d) : d.isNaN = false := by
  unfold Ieee.Datum.product at h
  split at h <;> (try (cases h; done))
  all_goals first | (split at h <;> first | (cases h; rfl; done) | (cases h; done)) | (cases h; rfl)
theorem quotient_not_nan {n : Nat} {x y d : Ieee.Datum} (h : x.quotient n y = some d) : d.isNaN = false := by
  unfold Ieee.Datum.quotient at h
  split at h <;> (try (cases h; done))
  · cases h; rfl
  · cases h; rfl
  · split at h
    · split at h
      · cases h
      · cases h; rfl
    · cases h; rfl
theorem root_not_nan {n : Nat} {x d : Ieee.Datum} (h : x.root n = some d) : d.isNaN = false := by
  unfold Ieee.Datum.root at h
  split at h <;> (try (cases h; done))
  · split at h
    · cases h
    · cases h; rfl
  · split at h
    · cases h; rfl
    · split at h
      · cases h
      · cases h; rfl

theorem isNaN_opposite (d : Ieee.Datum) : d.opposite.isNaN = d.isNaN := by cases d <;> rfl

theorem sum_nan {x y : Ieee.Datum} (h : x.isNaN = true ∨ y.isNaN = true) : x.sum y = none := by
  cases x <;> cases y <;> simp [Ieee.Datum.isNaN] at h <;> rfl
theorem product_nan {x y : Ieee.Datum} (h : x.isNaN = true ∨ y.isNaN = true) : x.product y = none := by
  cases x <;> cases y <;> simp [Ieee.Datum.isNaN] at h <;> rfl
theorem quotient_nan {n : Nat} {x y : Ieee.Datum} (h : x.isNaN = true ∨ y.isNaN = true) : x.quotient n y = none := by
  cases x <;> cases y <;> simp [Ieee.Datum.isNaN] at h <;> rfl
theorem order_nan {x y : Ieee.Datum} (h : x.isNaN = true ∨ y.isNaN = true) : x.order y = none := by
  cases x <;> cases y <;> simp [Ieee.Datum.isNaN] at h <;> rfl
theorem root_nan {n : Nat} {x : Ieee.Datum} (h : x.isNaN = true) : x.root n = none := by
  cases x <;> simp [Ieee.Datum.isNaN] at h <;> rfl

/-- '+', '-', '*', '/' up to the bits of a NaN. -/
def fO (op : BinOp) (x y : Option Nat) : Option Nat := x.bind fun a => y.bind fun b => floatBits op .f64 a b
def sqrtO (x : Option Nat) : Option Nat := x.bind fun a => Ieee.double.sqrt a
/-- How two stand to each other. -/
def cmpO (x y : Option Nat) : Option Ordering := x.bind fun a => y.bind fun b => Ieee.double.order a b
def minO (x y : Option Nat) : Option Nat := x.bind fun a => y.bind fun b =>
  match Ieee.double.order a b with
  | none => none
  | some .lt => some a
  | some .gt => some b
  | some .eq => some (if (Ieee.double.read a).neg then a else b)

def ltO (x y : Option Nat) : Bool := cmpO x y == some .lt
def leO (x y : Option Nat) : Bool := cmpO x y == some .lt || cmpO x y == some .eq
def gtO (x y : Option Nat) : Bool := cmpO x y == some .gt
def geO (x y : Option Nat) : Bool := cmpO x y == some .gt || cmpO x y == some .eq
def eqO (x y : Option Nat) : Bool := cmpO x y == some .eq

theorem floatBits_nan (op : BinOp) {x y : Nat} (h : (Ieee.double.read x).isNaN = true ∨ (Ieee.double.read y).isNaN = true) : floatBits op .f64 x y = none := by
  cases op <;> try rfl
  · show Option.map _ ((Ieee.double.read x).sum (Ieee.double.read y)) = none; rw [sum_nan h]; rfl
  · show Option.map _ ((Ieee.double.read x).sum (Ieee.double.read y).opposite) = none; rw [sum_nan (by rw [isNaN_opposite]; exact h)]; rfl
  · show Option.map _ ((Ieee.double.read x).product (Ieee.double.read y)) = none; rw [product_nan h]; rfl
  · show Option.map _ ((Ieee.double.read x).quotient _ (Ieee.double.read y)) = none; rw [quotient_nan h]; rfl

theorem fO_ab (op : BinOp) (x y : Nat) : fO op (ab x) (ab y) = floatBits op .f64 x y := by
  unfold fO ab
  cases hx : (Ieee.double.read x).isNaN <;> cases hy : (Ieee.double.read y).isNaN <;> simp [floatBits_nan op (x := x) (y := y), hx, hy]

theorem sqrtO_ab (x : Nat) : sqrtO (ab x) = Ieee.double.sqrt x := by
  unfold sqrtO ab
  cases hx : (Ieee.double.read x).isNaN <;> simp
  unfold Ieee.Format.sqrt
  rw [root_nan hx]; rfl

theorem cmpO_ab (x y : Nat) : cmpO (ab x) (ab y) = Ieee.double.order x y := by
  unfold cmpO ab
  cases hx : (Ieee.double.read x).isNaN <;> cases hy : (Ieee.double.read y).isNaN <;> simp <;>
    (unfold Ieee.Format.order; rw [order_nan (by simp [hx, hy])])

theorem floatBits_ab {op : BinOp} {x y r : Nat} (h : floatBits op .f64 x y = some r) : ab r = some r := by
  cases op <;> try (cases h; done)
  all_goals
    simp only [floatBits, FloatKind.format, Ieee.Format.add, Ieee.Format.sub, Ieee.Format.mul, Ieee.Format.div] at h
    obtain ⟨d, hd, rfl⟩ := Option.map_eq_some_iff.1 h
  · exact ab_write (sum_not_nan hd)
  · exact ab_write (sum_not_nan hd)
  · exact ab_write (product_not_nan hd)
  · exact ab_write (quotient_not_nan hd)

theorem sqrt_ab {x r : Nat} (h : Ieee.double.sqrt x = some r) : ab r = some r := by
  unfold Ieee.Format.sqrt at h
  obtain ⟨d, hd, rfl⟩ := Option.map_eq_some_iff.1 h
  exact ab_write (root_not_nan hd)

/-- What a NaN's bits are drawn to be. -/
def nanOf (t : Nat) : Nat := (t % 2) * 2 ^ 63 + 0x7ff0000000000000 + 1 + (t / 2) % (2 ^ 52 - 1)
theorem nanOf_ab (t : Nat) : ab (nanOf t) = none ∧ nanOf t < two64 := by
  have e : nanOf t = (t % 2) * 9223372036854775808 + 9218868437227405313 + (t / 2) % 4503599627370495 := by
    unfold nanOf
    have h1 : (2:Nat) ^ 63 = 9223372036854775808 := by decide +kernel
    have h2 : (2:Nat) ^ 52 - 1 = 4503599627370495 := by decide +kernel
    rw [h1, h2]
  have h3 : (t / 2) % 4503599627370495 < 4503599627370495 := Nat.mod_lt _ (by omega)
  have h4 : t % 2 < 2 := Nat.mod_lt _ (by omega)
  rw [e]
  generalize (t / 2) % 4503599627370495 = q at *
  generalize t % 2 = s at *
  refine ⟨ab_none ?_, by unfold two64; omega⟩
  have : s = 0 ∨ s = 1 := by omega
  rcases this with rfl | rfl <;> omega

section
variable {P : Program}

theorem run_choose_nanBits (x y : Nat) (w : World) : (choose (.nanBits .f64 x y)).run P w = .ok (nanOf (w.tape w.drawn (.nanBits .f64 x y))) (w.drewN 1) := rfl
theorem run_choose_nanMin (b : Bool) (x y : Nat) (w : World) : (choose (.nanMinMax .f64 b x y)).run P w = .ok (nanOf (w.tape w.drawn (.nanMinMax .f64 b x y))) (w.drewN 1) := rfl

/-- A WORD THAT IS o UP TO THE BITS OF A NaN, AS A VALUE. -/
def IsF (o : Option Nat) (v : Value) : Prop := ∃ r, v = .float .f64 r ∧ ab r = o ∧ r < two64

def arith (op : BinOp) : Bool := op == .add || op == .sub || op == .mul || op == .quo

theorem run_arith (op : BinOp) (ha : arith op = true) (t : TypeId) (x y : Nat) (w : World) :
    ∃ r n, (binOp op t (.float .f64 x) (.float .f64 y)).run P w = .ok (.float .f64 r) (w.drewN n) ∧ ab r = fO op (ab x) (ab y) ∧ r < two64 := by
  rw [fO_ab]
  cases h : floatBits op .f64 x y with
  | some r =>
    refine ⟨r, 0, run_float_arith w op t .f64 x y r h, floatBits_ab h, ?_⟩
    have := floatBits_wf h
    simpa [Lit.wf] using this
  | none =>
    refine ⟨nanOf (w.tape w.drawn (.nanBits .f64 x y)), 1, ?_, (nanOf_ab _).1, (nanOf_ab _).2⟩
    cases op <;> simp [arith] at ha <;> simp only [floatBits] at h <;> (simp [binOp, Op.floatArith, h]; rfl)

theorem run_min (ts : Array TypeId) (t : TypeId) (x y : Nat) (hx : x < two64) (hy : y < two64) (w : World) :
    ∃ r n, (Builtin.min_ ts t #[.float .f64 x, .float .f64 y]).run P w = .ok (.float .f64 r) (w.drewN n) ∧ ab r = minO (ab x) (ab y) ∧ r < two64 := by
  have e : (Builtin.min_ ts t #[.float .f64 x, .float .f64 y]).run P w = (Builtin.min2 (.float .f64 x) (.float .f64 y)).run P w := by
    simp [Builtin.min_]
  rw [e]
  by_cases hn : (Ieee.double.read x).isNaN = true ∨ (Ieee.double.read y).isNaN = true
  · have ho : Ieee.double.order x y = none := order_nan hn
    have hm : minO (ab x) (ab y) = none := by
      unfold minO ab
      rcases hn with hn | hn
      · simp [hn]
      · cases hx : (Ieee.double.read x).isNaN <;> simp [hn]
    refine ⟨nanOf (w.tape w.drawn (.nanMinMax .f64 false x y)), 1, ?_, by rw [hm]; exact (nanOf_ab _).1, (nanOf_ab _).2⟩
    unfold Builtin.min2
    simp only [FloatKind.format, ho]
    simp
    rfl
  · have h1 : (Ieee.double.read x).isNaN = false := by cases h : (Ieee.double.read x).isNaN <;> simp [h] at hn ⊢
    have h2 : (Ieee.double.read y).isNaN = false := by cases h : (Ieee.double.read y).isNaN <;> simp [h] at hn ⊢
    have hax : ab x = some x := by unfold ab; simp [h1]
    have hay : ab y = some y := by unfold ab; simp [h2]
    rw [hax, hay]
    cases ho : Ieee.double.order x y with
    | none =>
      exfalso
      unfold Ieee.Format.order at ho
      generalize Ieee.double.read x = a at *
      generalize Ieee.double.read y = b at *
      cases a <;> cases b <;> simp [Ieee.Datum.isNaN] at h1 h2 <;> simp [Ieee.Datum.order] at ho
    | some c =>
      cases c
      · refine ⟨x, 0, ?_, by simp [minO, ho, hax], hx⟩
        unfold Builtin.min2; simp only [FloatKind.format, ho]; rfl
      · refine ⟨if (Ieee.double.read x).neg then x else y, 0, ?_, ?_, by split <;> assumption⟩
        · unfold Builtin.min2; simp only [FloatKind.format, ho]; rfl
        · simp only [minO, Option.bind_some, ho]; split <;> assumption
      · refine ⟨y, 0, ?_, by simp [minO, ho, hay], hy⟩
        unfold Builtin.min2; simp only [FloatKind.format, ho]; rfl
end

/-! ### The comparisons, as the walk is to see them -/
theorem ord_lt (a b : Nat) : (FloatKind.f64.format.order a b == some Ordering.lt) = ltO (ab a) (ab b) := by unfold ltO; rw [cmpO_ab]; rfl
theorem ord_gt (a b : Nat) : (FloatKind.f64.format.order a b == some Ordering.gt) = gtO (ab a) (ab b) := by unfold gtO; rw [cmpO_ab]; rfl
theorem ord_eq (a b : Nat) : (FloatKind.f64.format.order a b == some Ordering.eq) = eqO (ab a) (ab b) := by unfold eqO; rw [cmpO_ab]; rfl
theorem ord_ne (a b : Nat) : (FloatKind.f64.format.order a b != some Ordering.eq) = !eqO (ab a) (ab b) := by unfold eqO; rw [cmpO_ab]; rfl
theorem ord_le (a b : Nat) : (FloatKind.f64.format.order a b == some Ordering.lt || FloatKind.f64.format.order a b == some Ordering.eq) = leO (ab a) (ab b) := by unfold leO; rw [cmpO_ab]; rfl
theorem ord_ge (a b : Nat) : (FloatKind.f64.format.order a b == some Ordering.gt || FloatKind.f64.format.order a b == some Ordering.eq) = geO (ab a) (ab b) := by unfold geO; rw [cmpO_ab]; rfl

/-! ### An operation of a plain region -/
section
variable {P : Program} {ops : Array Oper} {rest : List Oper} {op : Oper} {a : Act} {w : World} {Q : Exit → Act → World → Prop}

theorem exec_arith (bop : BinOp) (t z : TypeId) (x y : Operand) (ho : op.op = .binOp bop t x y z) (ha : arith bop = true) (X Y : Nat) (hx : a.eval x = .float .f64 X) (hy : a.eval y = .float .f64 Y) (w : World) :
    ∃ r n, (execOp a.eval op).run P w = .ok (.value (.float .f64 r)) (w.drewN n) ∧ ab r = fO bop (ab X) (ab Y) ∧ r < two64 := by
  obtain ⟨r, n, h1, h2, h3⟩ := run_arith (P := P) bop ha t X Y w
  refine ⟨r, n, ?_, h2, h3⟩
  unfold execOp
  simp only [ho, hx, hy]
  cases bop <;> simp [arith] at ha <;> simp [eqGuard, h1]

theorem wpList_arith (hgd : op.guard = none) (bop : BinOp) (t z : TypeId) (x y : Operand) (ho : op.op = .binOp bop t x y z) (ha : arith bop = true) (X Y : Nat) (hx : a.eval x = .float .f64 X) (hy : a.eval y = .float .f64 Y)
    (h : ∀ r n, ab r = fO bop (ab X) (ab Y) → r < two64 → wpList P ops Q rest (a.put op.dst (.float .f64 r)) (w.drewN n)) : wpList P ops Q (op :: rest) a w :=
  wpList_plain hgd fun _ hK => by
    obtain ⟨r, n, h1, h2, h3⟩ := exec_arith (P := P) bop t z x y ho ha X Y hx hy w
    unfold Oper.wp
    rw [h1]
    exact hK _ _ (h r n h2 h3)
end

end Go.Flt

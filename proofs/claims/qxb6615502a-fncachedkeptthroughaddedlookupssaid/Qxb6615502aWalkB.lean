/-
  math.Round at one number, Stats.add (seat b6615502a).
-/
import Derived.Test.Qxb6615502aWalkA
namespace Go.Proofs.Qxb6615502a.Cached
attribute [local go_sem ↓] Go.wp_at_zero Go.wp_at_succ
open Go.ChangeShapes Go.WideShapes Go.ChangeAt Go.RowKit

section
variable (w : World)
theorem run_cvt (h : Int) : (convert 50 113 (.int .i64 h)).run Try.prog w = .ok (.float .f64 (floatOfInt .f64 h)) w :=
  run_convert_int_float w 50 113 .i64 .f64 h (by kernel_rfl) (by kernel_rfl)
theorem run_quo (h : Int) (h0 : 0 < h) (h1 : h < 2147483648) : (binOp .quo 113 (.float .f64 (floatOfInt .f64 h)) (.float .f64 (floatOfInt .f64 h))).run Try.prog w = .ok (.float .f64 4607182418800017408) w :=
  run_float_arith w .quo 113 .f64 _ _ _ (quo_int h h0 h1)
theorem run_mul : (binOp .mul 113 (.float .f64 4607182418800017408) (.float .f64 4696837146684686336)).run Try.prog w = .ok (.float .f64 4696837146684686336) w :=
  run_float_arith w .mul 113 .f64 _ _ _ mul_mil
theorem run_cvt2 : (convert 113 22 (.float .f64 4696837146684686336)).run Try.prog w = .ok (.int .u64 1000000) w :=
  run_convert_float_int w 113 22 .f64 .u64 _ _ (by kernel_rfl) (by kernel_rfl) int_mil
theorem run_bits (b : Nat) : (callFunc 51 #[.float .f64 b]).run Try.prog w = .ok (.value (.int .u64 b)) w := by
  rw [run_callFunc_extern Try.func51 (by kernel_rfl) (by kernel_rfl) (by kernel_rfl) (e := Extern.MathFloatBits.float64bits) (by kernel_rfl)]
  rfl
theorem run_frombits (n : Int) : (callFunc 52 #[.int .u64 n]).run Try.prog w = .ok (.value (.float .f64 n.toNat)) w := by
  rw [run_callFunc_extern Try.func52 (by kernel_rfl) (by kernel_rfl) (by kernel_rfl) (e := Extern.MathFloatBits.float64frombits) (by kernel_rfl)]
  rfl
end

attribute [local go_sem] run_bits run_frombits

theorem round_plain : (bits .andNot .u64 (IntKind.u64.wrap (4696837146684686336 + 2251799813685248 / 2 ^ (bits .and .u64 1042 2047 - 1023).toNat)) (4503599627370495 / 2 ^ (bits .and .u64 1042 2047 - 1023).toNat)).toNat = 4696837146684686336 := by decide +kernel

set_option maxRecDepth 100000 in
theorem round_mil (w : World) : Calls Try.prog 46 #[.float .f64 4696837146684686336] w fun e w' => e = .returned (.float .f64 4696837146684686336) ∧ w' = w := by
  go_enter Try.func46, Try.ntmps46
  go_wp2
  go_ret
  exact ⟨congrArg (fun n => Ending.returned (.float .f64 n)) round_plain, rfl⟩


/-- What the walk of one added lookup asks of the Stats at block b. -/
structure Inv (b : Nat) (w : World) : Prop where
  u : ∀ i, (i = 1 ∨ 4 ≤ i) → i < 24 → ∃ x, w.cell? ⟨b, i, none⟩ = some (.int .u64 x)
  m : ∃ x, w.cell? ⟨b, 3, none⟩ = some (.int .i64 x)
  f : ∀ i, i < 24 → w.frozen? ⟨b, i, none⟩ = false

theorem Inv.row {b : Nat} {w : World} (h : Inv b w) (off : Nat) (h0 : 4 ≤ off) (h1 : off + 5 ≤ 24) : Row b off 5 w :=
  fun i g0 g1 => ⟨h.u i (by omega) (by omega), h.f i (by omega)⟩

theorem Inv.upd {b off : Nat} {w w' : World} (h : Inv b w) (k : Upd b off 5 w w') (h0 : 4 ≤ off) (h1 : off + 5 ≤ 24) : Inv b w' where
  u i g0 g1 := by
    by_cases e : off ≤ i ∧ i < off + 5
    · exact k.row i e.1 e.2
    · rw [k.cell i (by omega)]; exact h.u i g0 g1
  m := by rw [k.cell 3 (by omega)]; exact h.m
  f i g := by rw [k.froz]; exact h.f i g

/-- What holds of the world w' in the middle of Stats.add, entered in the world w. -/
structure St (b : Nat) (w w' : World) : Prop where
  inv : Inv b w'
  below : Below b w w'
  far : ∀ i, 24 ≤ i ∨ i = 0 ∨ i = 2 → w'.cell? ⟨b, i, none⟩ = w.cell? ⟨b, i, none⟩

theorem St.first {b : Nat} {w : World} (h : Inv b w) (p q : Int) : St b w ((w.setCell ⟨b, 1, none⟩ (.int .u64 p)).setCell ⟨b, 3, none⟩ (.int .i64 q)) where
  inv :=
    { u := fun i g0 g1 => by
        rw [World.cell?_setCell_other _ _ _ _ (by intro e; injection e; omega)]
        by_cases e : i = 1
        · subst e
          obtain ⟨y, hy⟩ := h.u 1 (by omega) (by omega)
          exact ⟨p, World.cell?_setCell_same _ _ _ hy⟩
        · rw [World.cell?_setCell_other _ _ _ _ (by intro e; injection e; omega)]; exact h.u i g0 g1
      m := by
        obtain ⟨y, hy⟩ := h.m
        exact ⟨q, World.cell?_setCell_same _ _ _ (by rw [World.cell?_setCell_other _ _ _ _ (by intro e; injection e; omega)]; exact hy)⟩
      f := fun i g => by rw [World.frozen?_setCell, World.frozen?_setCell]; exact h.f i g }
  below := ((Below.refl b w).setCell (p := ⟨b, 1, none⟩) (Nat.le_refl _) _).setCell (p := ⟨b, 3, none⟩) (Nat.le_refl _) _
  far i g := by rw [World.cell?_setCell_other _ _ _ _ (by intro e; injection e; omega), World.cell?_setCell_other _ _ _ _ (by intro e; injection e; omega)]

theorem St.upd {b off : Nat} {w w1 w2 : World} (h : St b w w1) (k : Upd b off 5 w1 w2) (h0 : 4 ≤ off) (h1 : off + 5 ≤ 24) : St b w w2 where
  inv := h.inv.upd k h0 h1
  below := h.below.trans k.below
  far i g := by rw [k.cell i (by omega)]; exact h.far i g

theorem St.drew {b : Nat} {w w1 : World} (h : St b w w1) : St b w w1.drew := ⟨⟨h.inv.u, h.inv.m, h.inv.f⟩, h.below.drew, h.far⟩

attribute [local go_sem] run_cvt run_mul run_cvt2

set_option maxHeartbeats 2000000 in
theorem add_any (w : World) (b : Nat) (n : Int) (hv : Inv b w) (h1 : n < 2147483648) :
    Calls Try.prog 36 #[.pointer (some ⟨b, 0, none⟩), .int .i64 n, .int .i64 0, .bool true, .int .i64 n, .int .i64 n] w fun e w' => e = .returned (.tuple #[]) ∧ St b w w' := by
  obtain ⟨x1, c1⟩ := hv.u 1 (by omega) (by omega)
  obtain ⟨x3, c3⟩ := hv.m
  have f1 := hv.f 1 (by omega)
  have f3 := hv.f 3 (by omega)
  by_cases hd : 0 < n
  · have hq := fun w => run_quo w n hd h1
    go_enter Try.func36, Try.ntmps36
    go_wp2_with fail
    all_goals
      have s1 := St.first hv (IntKind.u64.wrap (x1 + 1))
      refine (mom_upd _ b 4 _ ((s1 _).inv.row 4 (by omega) (by omega))).mono ?_
      rintro e w1 ⟨rfl, u1⟩
      replace s1 := (s1 _).upd u1 (by omega) (by omega)
      clear u1
      go_wp2_with fail
      refine (mom_upd _ b 9 _ (s1.inv.row 9 (by omega) (by omega))).mono ?_
      rintro e w2 ⟨rfl, u2⟩
      replace s1 := s1.upd u2 (by omega) (by omega)
      clear u2
      go_wp2_with fail
      refine (mom_upd _ b 14 _ (s1.inv.row 14 (by omega) (by omega))).mono ?_
      rintro e w3 ⟨rfl, u3⟩
      replace s1 := s1.upd u3 (by omega) (by omega)
      clear u3
      go_wp2_with fail
      go_region_with (first
        | (go_at_call 46; refine (round_mil _).mono ?_; rintro e w' ⟨rfl, rfl⟩)
        | (go_at_call 45; refine (mom_upd _ b 19 _ (by exact s1.drew.inv.row 19 (by omega) (by omega))).mono ?_; rintro e w' ⟨rfl, u4⟩))
      go_wp2_with fail
      go_end0
      exact ⟨rfl, s1.drew.upd u4 (by omega) (by omega)⟩
  · go_enter Try.func36, Try.ntmps36
    go_wp2_with fail
    all_goals
      have s1 := St.first hv (IntKind.u64.wrap (x1 + 1))
      refine (mom_upd _ b 4 _ ((s1 _).inv.row 4 (by omega) (by omega))).mono ?_
      rintro e w1 ⟨rfl, u1⟩
      replace s1 := (s1 _).upd u1 (by omega) (by omega)
      clear u1
      go_wp2_with fail
      refine (mom_upd _ b 9 _ (s1.inv.row 9 (by omega) (by omega))).mono ?_
      rintro e w2 ⟨rfl, u2⟩
      replace s1 := s1.upd u2 (by omega) (by omega)
      clear u2
      go_wp2_with fail
      refine (mom_upd _ b 14 _ (s1.inv.row 14 (by omega) (by omega))).mono ?_
      rintro e w3 ⟨rfl, u3⟩
      replace s1 := s1.upd u3 (by omega) (by omega)
      clear u3
      go_wp2_with fail
      go_end0
      exact ⟨rfl, s1⟩

end Go.Proofs.Qxb6615502a.Cached

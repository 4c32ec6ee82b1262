/-
  The contracts of package math's functions on the road, more: Atan, Atan2, Asin (seat b6614725a).
-/
import Derived.Test.Qxb6614725aMathA
import Derived.Deep.RegionWith
namespace Go.Proofs.Qxb6614725a
open Go.ChangeShapes Go.WideShapes Go.ChangeAt Go.RowKit Go.Flt
attribute [local go_sem ↓] ord_le ord_ge ord_ne
attribute [local go_sem] ord_lt ord_gt ord_eq

theorem run_neg (x : Nat) (w : World) : (Op.unary .neg (.float .f64 x)).run Try.prog w = .ok (.float .f64 (Op.negFloat .f64 x)) w := rfl
attribute [local go_sem] run_neg ab_neg

set_option maxHeartbeats 1000000 in
theorem atan_any (x : Nat) (w : World) (hx : x < two64) : Calls Try.prog 71 #[.float .f64 x] w (Gives (atanO (ab x)) w) := by
  cases h1 : eqO (ab x) (K 0)
  · cases h2 : gtO (ab x) (K 0)
    · go_enter Try.func71, Try.ntmps71
      go_wp2_with (go_at_call 60; refine (satan_any _ _).mono ?_; rintro e w' ⟨⟨r, rfl, hr, hb⟩, n, rfl⟩)
      go_ret
      exact ⟨⟨_, rfl, by rw [ab_neg, hr, ab_neg]; simp [atanO, h1, h2], neg_lt _ hb⟩, _, rfl⟩
    · go_enter Try.func71, Try.ntmps71
      go_wp2_with (go_at_call 60; refine (satan_any _ _).mono ?_; rintro e w' ⟨⟨r, rfl, hr, hb⟩, n, rfl⟩)
      go_ret
      exact ⟨⟨_, rfl, by simp [atanO, *], hb⟩, _, rfl⟩
  · go_enter Try.func71, Try.ntmps71
    go_wp2_with fail
    go_ret
    exact ⟨⟨_, rfl, by simp [atanO, *], hx⟩, 0, rfl⟩

theorem Atan_any (x : Nat) (w : World) (hx : x < two64) : Calls Try.prog 69 #[.float .f64 x] w (Gives (atanO (ab x)) w) := by
  go_enter Try.func69, Try.ntmps69
  go_wp2_with (go_at_call 71; refine (atan_any _ _ hx).mono ?_; rintro e w' ⟨⟨r, rfl, hr, hb⟩, n, rfl⟩)
  go_ret
  exact ⟨⟨_, rfl, hr, hb⟩, _, rfl⟩

theorem isinf0_any (x : Nat) (w : World) (hx : x < two64) : Calls Try.prog 68 #[.float .f64 x, .int .i64 0] w fun e w' => e = .returned (.bool (infO (ab x))) ∧ ∃ n, w' = w.drewN n := by
  go_enter Try.func68, Try.ntmps68
  go_wp2_with (go_at_call 49; refine (abs_any _ _ hx).mono ?_; rintro e w' ⟨⟨r, rfl, hr, hb⟩, n, rfl⟩)
  go_ret
  exact ⟨by simp [infO, *], _, rfl⟩

theorem isinf1_any (x : Nat) (w : World) : Calls Try.prog 68 #[.float .f64 x, .int .i64 1] w fun e w' => e = .returned (.bool (gtO (ab x) (K 9218868437227405311))) ∧ w' = w := by
  go_enter Try.func68, Try.ntmps68
  go_wp2_with fail
  go_ret
  exact ⟨rfl, rfl⟩

theorem ab_of_self {x : Nat} (h : eqO (ab x) (ab x) = true) : ab x = some x := by
  unfold ab at *
  split
  · rename_i hn; rw [if_pos hn] at h; cases h
  · rfl

theorem signO_ab {x : Nat} (h : eqO (ab x) (ab x) = true) : signO (ab x) = decide (9223372036854775808 ≤ x) := by
  rw [ab_of_self h]; rfl

/-- Copysign at a constant that is no NaN. -/
theorem cs_any (c y : Nat) (w : World) (hc : c % 9223372036854775808 ≤ 9218868437227405312 ∧ c < two64) (hy : y < two64) (h : eqO (ab y) (ab y) = true) : Calls Try.prog 67 #[.float .f64 c, .float .f64 y] w (Gives (csO c (ab y)) w) := by
  refine (copysign_any c y w hc.2 hy).mono ?_
  rintro e w' ⟨rfl, rfl⟩
  refine ⟨⟨_, rfl, ab_cs c y hc.1 (ab_of_self h), ?_⟩, 0, rfl⟩
  unfold two64 at *
  omega

theorem nan_ab : ab 9221120237041090561 = none := ab_none (by decide +kernel)

set_option maxHeartbeats 2000000 in
theorem atan2_any (y x : Nat) (w : World) (hy : y < two64) (hx : x < two64) : Calls Try.prog 63 #[.float .f64 y, .float .f64 x] w (Gives (atan2O (ab y) (ab x)) w) := by
  cases e1 : eqO (ab y) (ab y)
  · go_enter Try.func63, Try.ntmps63
    go_wp2_with (first
      | (go_at_call 65; refine (isnan_any _ _).mono ?_; rintro e w' ⟨rfl, rfl⟩)
      | (go_at_call 59; refine (nan_any _).mono ?_; rintro e w' ⟨rfl, rfl⟩))
    go_ret
    exact ⟨⟨_, rfl, by rw [nan_ab]; simp [atan2O, e1], by decide +kernel⟩, 0, rfl⟩
  cases e2 : eqO (ab x) (ab x)
  · go_enter Try.func63, Try.ntmps63
    go_wp2_with (first
      | (go_at_call 65; refine (isnan_any _ _).mono ?_; rintro e w' ⟨rfl, rfl⟩)
      | (go_at_call 59; refine (nan_any _).mono ?_; rintro e w' ⟨rfl, rfl⟩))
    go_ret
    exact ⟨⟨_, rfl, by rw [nan_ab]; simp [atan2O, e2], by decide +kernel⟩, 0, rfl⟩
  have hs := signO_ab e2
  cases e3 : eqO (ab y) (K 0)
  · cases e6 : eqO (ab x) (K 0)
    · cases e7 : infO (ab x)
      · cases e9 : infO (ab y)
        · cases e10 : ltO (ab x) (K 0)
          · go_enter Try.func63, Try.ntmps63
            go_wp2_with (first
              | (refine wpList_arith rfl _ _ _ _ _ rfl rfl _ _ (by rfl) (by rfl) ?_; intro r n hr hb)
              | (go_at_call 65; refine (isnan_any _ _).mono ?_; rintro e w' ⟨rfl, rfl⟩)
              | (go_at_call 68; refine (isinf0_any _ _ (by assumption)).mono ?_; rintro e w' ⟨rfl, n, rfl⟩)
              | (go_at_call 69; refine (Atan_any _ _ (by assumption)).mono ?_; rintro e w' ⟨⟨r, rfl, hr, hb⟩, n, rfl⟩))
            go_ret
            exact ⟨⟨_, rfl, by simp [atan2O, *], hb⟩, _, rfl⟩
          · cases e11 : leO (atanO (fO .quo (ab y) (ab x))) (K 0)
            all_goals
              go_enter Try.func63, Try.ntmps63
              go_wp2_with (first
                | (refine wpList_arith rfl _ _ _ _ _ rfl rfl _ _ (by rfl) (by rfl) ?_; intro r n hr hb)
                | (go_at_call 65; refine (isnan_any _ _).mono ?_; rintro e w' ⟨rfl, rfl⟩)
                | (go_at_call 68; refine (isinf0_any _ _ (by assumption)).mono ?_; rintro e w' ⟨rfl, n, rfl⟩)
                | (go_at_call 69; refine (Atan_any _ _ (by assumption)).mono ?_; rintro e w' ⟨⟨r, rfl, hr, hb⟩, n, rfl⟩))
              go_ret
              exact ⟨⟨_, rfl, by simp [atan2O, *], hb⟩, _, rfl⟩
        · go_enter Try.func63, Try.ntmps63
          go_wp2_with (first
            | (go_at_call 65; refine (isnan_any _ _).mono ?_; rintro e w' ⟨rfl, rfl⟩)
            | (go_at_call 68; refine (isinf0_any _ _ (by assumption)).mono ?_; rintro e w' ⟨rfl, n, rfl⟩)
            | (go_at_call 67; refine (cs_any _ _ _ (by decide +kernel) hy e1).mono ?_; rintro e w' ⟨⟨r, rfl, hr, hb⟩, n, rfl⟩))
          go_ret
          exact ⟨⟨_, rfl, by simp [atan2O, *], hb⟩, _, rfl⟩
      · cases e8 : gtO (ab x) (K 9218868437227405311) <;> cases e9 : infO (ab y)
        all_goals
          go_enter Try.func63, Try.ntmps63
          go_wp2_with (first
            | (go_at_call 65; refine (isnan_any _ _).mono ?_; rintro e w' ⟨rfl, rfl⟩)
            | (go_at_call_of 68 (Value.int IntKind.i64 0); refine (isinf0_any _ _ (by assumption)).mono ?_; rintro e w' ⟨rfl, n, rfl⟩)
            | (go_at_call_of 68 (Value.int IntKind.i64 1); refine (isinf1_any _ _).mono ?_; rintro e w' ⟨rfl, rfl⟩)
            | (go_at_call 67; refine (cs_any _ _ _ (by decide +kernel) hy e1).mono ?_; rintro e w' ⟨⟨r, rfl, hr, hb⟩, n, rfl⟩))
          go_ret
          exact ⟨⟨_, rfl, by simp [atan2O, *], hb⟩, _, rfl⟩
    · go_enter Try.func63, Try.ntmps63
      go_wp2_with (first
        | (go_at_call 65; refine (isnan_any _ _).mono ?_; rintro e w' ⟨rfl, rfl⟩)
        | (go_at_call 67; refine (cs_any _ _ _ (by decide +kernel) hy e1).mono ?_; rintro e w' ⟨⟨r, rfl, hr, hb⟩, n, rfl⟩))
      go_ret
      exact ⟨⟨_, rfl, by simp [atan2O, *], hb⟩, _, rfl⟩
  · cases e4 : geO (ab x) (K 0) <;> cases e5 : decide (9223372036854775808 ≤ x)
    all_goals
      go_enter Try.func63, Try.ntmps63
      go_wp2_with (first
        | (go_at_call 65; refine (isnan_any _ _).mono ?_; rintro e w' ⟨rfl, rfl⟩)
        | (go_at_call 66; refine (signbit_any _ _ hx).mono ?_; rintro e w' ⟨rfl, rfl⟩)
        | (go_at_call 67; refine (cs_any _ _ _ (by decide +kernel) hy e1).mono ?_; rintro e w' ⟨⟨r, rfl, hr, hb⟩, n, rfl⟩))
      go_ret
      exact ⟨⟨_, rfl, by simp [atan2O, *], hb⟩, _, rfl⟩

theorem Atan2_any (y x : Nat) (w : World) (hy : y < two64) (hx : x < two64) : Calls Try.prog 58 #[.float .f64 y, .float .f64 x] w (Gives (atan2O (ab y) (ab x)) w) := by
  go_enter Try.func58, Try.ntmps58
  go_wp2_with (go_at_call 63; refine (atan2_any _ _ _ hy hx).mono ?_; rintro e w' ⟨⟨r, rfl, hr, hb⟩, n, rfl⟩)
  go_ret
  exact ⟨⟨_, rfl, hr, hb⟩, _, rfl⟩

set_option maxHeartbeats 2000000 in
theorem asin_any (x : Nat) (w : World) (hx : x < two64) : Calls Try.prog 54 #[.float .f64 x] w (Gives (asinO (ab x)) w) := by
  cases e1 : eqO (ab x) (K 0)
  · cases e2 : ltO (ab x) (K 0)
    · cases e3 : gtO (ab x) (K 4607182418800017408)
      · cases e4 : gtO (ab x) (K 4604480259023595110)
        all_goals
          go_enter Try.func54, Try.ntmps54
          go_wp2_with (first
            | (refine wpList_arith rfl _ _ _ _ _ rfl rfl _ _ (by rfl) (by rfl) ?_; intro r n hr hb)
            | (go_at_call 57; refine (sqrt_any _ _).mono ?_; rintro e w' ⟨⟨r, rfl, hr, hb⟩, n, rfl⟩)
            | (go_at_call 60; refine (satan_any _ _).mono ?_; rintro e w' ⟨⟨r, rfl, hr, hb⟩, n, rfl⟩))
          go_ret
          exact ⟨⟨_, rfl, by simp [asinO, asinAbs, *], hb⟩, _, rfl⟩
      · go_enter Try.func54, Try.ntmps54
        go_wp2_with (go_at_call 59; refine (nan_any _).mono ?_; rintro e w' ⟨rfl, rfl⟩)
        go_ret
        exact ⟨⟨_, rfl, by rw [nan_ab]; simp [asinO, *], by decide +kernel⟩, 0, rfl⟩
    · cases e3 : gtO (negO (ab x)) (K 4607182418800017408)
      · cases e4 : gtO (negO (ab x)) (K 4604480259023595110)
        all_goals
          go_enter Try.func54, Try.ntmps54
          go_wp2_with (first
            | (refine wpList_arith rfl _ _ _ _ _ rfl rfl _ _ (by rfl) (by rfl) ?_; intro r n hr hb)
            | (go_at_call 57; refine (sqrt_any _ _).mono ?_; rintro e w' ⟨⟨r, rfl, hr, hb⟩, n, rfl⟩)
            | (go_at_call 60; refine (satan_any _ _).mono ?_; rintro e w' ⟨⟨r, rfl, hr, hb⟩, n, rfl⟩))
          go_ret
          exact ⟨⟨_, rfl, by rw [ab_neg]; simp [asinO, asinAbs, ab_neg, *], neg_lt _ hb⟩, _, rfl⟩
      · go_enter Try.func54, Try.ntmps54
        go_wp2_with (go_at_call 59; refine (nan_any _).mono ?_; rintro e w' ⟨rfl, rfl⟩)
        go_ret
        exact ⟨⟨_, rfl, by rw [nan_ab]; simp [asinO, *], by decide +kernel⟩, 0, rfl⟩
  · go_enter Try.func54, Try.ntmps54
    go_wp2_with fail
    go_ret
    exact ⟨⟨_, rfl, by simp [asinO, *], hx⟩, 0, rfl⟩

theorem Asin_any (x : Nat) (w : World) (hx : x < two64) : Calls Try.prog 48 #[.float .f64 x] w (Gives (asinO (ab x)) w) := by
  go_enter Try.func48, Try.ntmps48
  go_wp2_with (go_at_call 54; refine (asin_any _ _ hx).mono ?_; rintro e w' ⟨⟨r, rfl, hr, hb⟩, n, rfl⟩)
  go_ret
  exact ⟨⟨_, rfl, hr, hb⟩, _, rfl⟩

end Go.Proofs.Qxb6614725a

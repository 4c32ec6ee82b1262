/-
  The contracts of the callees of FnShareBytesIsTheGreatestNeedItHolds (seat b6615646a).
-/
import Derived.Test.Qxb6615646aRows
import Derived.WalkKit
import Derived.ProofKit
namespace Go.Proofs.Qxb6615646a.Share
open Go.ChangeShapes Go.WideShapes Go.ChangeAt Go.RowKit

/-- The cells of a bound, and of a share. -/
abbrev cs (b o m : Int) (s : ByteArray) : Array Value := #[.int .u64 b, .string s, .int .u64 o, .int .u64 m]

theorem bytes_any (b o m : Int) (s : ByteArray) (w : World) (h0 : 0 ≤ b) (h1 : b ≤ 18446744073709551615) :
    Calls Try.prog 9 #[.agg (cs b o m s)] w fun e w' => e = .returned (.int .i64 (b / 2)) ∧ w' = w.alloc (.cells (cs b o m s) 27) := by
  go_enter Try.func9, Try.ntmps9
  go_wp2
  go_ret
  exact ⟨rfl, rfl⟩

theorem wrap_neg (n : Int) (h2 : n < 0) (h3 : -9223372036854775808 ≤ n) : IntKind.u64.wrap n = n + 18446744073709551616 := by
  have e : IntKind.u64.wrap n = n % 18446744073709551616 := by simp [IntKind.wrap, IntKind.signed, IntKind.bits]
  rw [e]; omega

theorem holds_any (b o m n : Int) (s : ByteArray) (w : World) (h0 : 0 ≤ b) (h1 : b ≤ 18446744073709551615) (h2 : 0 ≤ n) (h3 : n ≤ 9223372036854775807) :
    Calls Try.prog 7 #[.agg (cs b o m s), .int .i64 n] w fun e w' => e = .returned (.bool (decide (n ≤ b / 2))) ∧ w' = (w.alloc (.cells (cs b o m s) 27)).alloc (.cells (cs b o m s) 27) := by
  go_enter Try.func7, Try.ntmps7
  go_wp2
  go_ret
  exact ⟨rfl, rfl⟩

theorem holds_neg (b o m n : Int) (s : ByteArray) (w : World) (h0 : 0 ≤ b) (h1 : b ≤ 18446744073709551615) (h2 : n < 0) (h3 : -9223372036854775808 ≤ n) :
    Calls Try.prog 7 #[.agg (cs b o m s), .int .i64 n] w fun e w' => e = .returned (.bool false) ∧ w' = (w.alloc (.cells (cs b o m s) 27)).alloc (.cells (cs b o m s) 27) := by
  go_enter Try.func7, Try.ntmps7
  go_wp2
  go_ret
  have hd : decide (IntKind.u64.wrap n ≤ b / 2) = false := by rw [wrap_neg n h2 h3]; simp; omega
  refine ⟨?_, rfl⟩
  show Ending.returned (.bool (decide (IntKind.u64.wrap n ≤ b / 2))) = _
  rw [hd]

theorem halves_any (b : Int) (w : World) (h0 : 0 ≤ b) (h1 : b ≤ 18446744073709551615) :
    Calls Try.prog 10 #[.int .i64 (b / 2), .int .u64 b] w fun e w' => e = .returned (.bool true) ∧ w' = w := by
  have hd : decide (b - b / 2 * 2 ≤ 1) = true := by simp; omega
  go_enter Try.func10, Try.ntmps10
  go_wp2
  go_ret
  exact ⟨rfl, rfl⟩

theorem bshare_any (b o m : Int) (s : ByteArray) (w : World) :
    Calls Try.prog 11 #[.agg (cs b o m s)] w fun e w' => e = .returned (.agg (cs b o m s)) ∧ w' = (w.alloc (.cells (cs b o m s) 25)).alloc (.cells (cs b o m s) 27) := by
  go_enter Try.func11, Try.ntmps11
  go_wp2
  exact bodyPost_ret (v := .agg (cs b o m s)) (by simp [results, Try.results11, go_sem]) rfl ⟨rfl, rfl⟩

theorem share_any (b o m : Int) (s : ByteArray) (w : World) :
    Calls Try.prog 6 #[.int .u64 b, .string s, .int .u64 o, .int .u64 m] w fun e w' => e = .returned (.agg (cs b o m s)) ∧ w' = ((w.alloc (.cells (cs b o m s) 27)).alloc (.cells (cs b o m s) 25)).alloc (.cells (cs b o m s) 27) := by
  go_enter Try.func6, Try.ntmps6
  go_wp2_with (go_at_call 11; refine (bshare_any _ _ _ _ _).mono ?_; rintro e w' ⟨rfl, rfl⟩)
  exact bodyPost_ret (v := .agg (cs b o m s)) (by simp [results, Try.results6, go_sem]) rfl ⟨rfl, rfl⟩

theorem zzb_any (b o m : Int) (s : ByteArray) (w : World) (h : s.size ≤ maxLen) :
    Calls Try.prog 8 #[.int .u64 b, .string s, .int .u64 o, .int .u64 m] w fun e w' => (∃ x, e = .returned (.bool x)) ∧ w' = w := by
  unfold maxLen at h
  go_enter Try.func8, Try.ntmps8
  go_wp2
  all_goals go_ret
  all_goals exact ⟨⟨_, rfl⟩, rfl⟩

end Go.Proofs.Qxb6615646a.Share

/-
  The contracts of the vector methods on the road (seat b6614725a).
-/
import Derived.Test.Qxb6614725aMathB
import Derived.Test.Qxb6614725aLoose
namespace Go.Proofs.Qxb6614725a
open Go.ChangeShapes Go.WideShapes Go.ChangeAt Go.RowKit Go.Flt
attribute [local go_sem ↓] ord_le ord_ge ord_ne
attribute [local go_sem] ord_lt ord_gt ord_eq

theorem run_store_float {P : Program} {w : World} {a : Addr} {m : Mode} (b : Nat) : (store a (.float .f64 b) m).run P w = stored P w a (.float .f64 b) m := run_store P w a _ m rfl
theorem alloc_drewN (w : World) (n : Nat) (o : Obj) : (w.drewN n).alloc o = (w.alloc o).drewN n := rfl
theorem setCell_drewN (w : World) (n : Nat) (a : Addr) (v : Value) : (w.drewN n).setCell a v = (w.setCell a v).drewN n := rfl
attribute [local go_sem] run_store_float alloc_drewN setCell_drewN

/-- A vector, by its words. -/
structure V3 where
  x : Nat
  y : Nat
  z : Nat
abbrev V3.val (p : V3) : Value := .agg #[.float .f64 p.x, .float .f64 p.y, .float .f64 p.z]
abbrev V3.cells (p : V3) : Array Value := #[.float .f64 p.x, .float .f64 p.y, .float .f64 p.z]
/-- Its words fit. -/
structure V3.Ok (p : V3) : Prop where
  x : p.x < two64
  y : p.y < two64
  z : p.z < two64
/-- Up to NaNs. -/
structure O3 where
  x : Option Nat
  y : Option Nat
  z : Option Nat
def V3.ab (p : V3) : O3 := ⟨Flt.ab p.x, Flt.ab p.y, Flt.ab p.z⟩

def dotO (p q : O3) : Option Nat := fO .add (fO .add (fO .mul p.x q.x) (fO .mul p.y q.y)) (fO .mul p.z q.z)
def crossO (p q : O3) : O3 :=
  ⟨fO .sub (fO .mul p.y q.z) (fO .mul p.z q.y), fO .sub (fO .mul p.z q.x) (fO .mul p.x q.z), fO .sub (fO .mul p.x q.y) (fO .mul p.y q.x)⟩
def normO (p : O3) : Option Nat := sqrtO (dotO p p)
def angleO (p q : O3) : Option Nat := atan2O (normO (crossO p q)) (dotO p q)

theorem below_drewN {B : Nat} {a w : World} (h : Below B a w) (n : Nat) : Below B a (w.drewN n) := ⟨h.os, h.tape, h.output, h.size, h.block⟩

/-- The end of a walk that gives a float and makes memory. -/
def GivesB (o : Option Nat) (w : World) (e : Ending) (w' : World) : Prop := (∃ r, e = .returned (.float .f64 r) ∧ ab r = o ∧ r < two64) ∧ Below w.heap.size w w'
/-- .. a vector. -/
def GivesV (o : O3) (w : World) (e : Ending) (w' : World) : Prop := (∃ r : V3, e = .returned r.val ∧ r.ab = o ∧ r.Ok) ∧ Below w.heap.size w w'

set_option maxHeartbeats 1000000 in
theorem dot_any (p q : V3) (w : World) : Calls Try.prog 42 #[p.val, q.val] w (GivesB (dotO p.ab q.ab) w) := by
  go_enter Try.func42, Try.ntmps42
  go_wp2_with (refine wpList_arith rfl _ _ _ _ _ rfl rfl _ _ (by rfl) (by rfl) ?_; intro r n hr hb)
  go_ret
  exact ⟨⟨_, rfl, by simp only [dotO, V3.ab, *], hb⟩, below_drewN (((Below.refl _ _).alloc (Nat.le_refl _) _).alloc (by simp) _) _⟩

set_option maxHeartbeats 1000000 in
theorem zzDot_any (p q : V3) (w : World) : Calls Try.prog 17 #[p.val, q.val] w (GivesB (dotO p.ab q.ab) w) := by
  go_enter Try.func17, Try.ntmps17
  go_wp2_with (refine wpList_arith rfl _ _ _ _ _ rfl rfl _ _ (by rfl) (by rfl) ?_; intro r n hr hb)
  go_ret
  exact ⟨⟨_, rfl, by simp only [dotO, V3.ab, *], hb⟩, below_drewN (((Below.refl _ _).alloc (Nat.le_refl _) _).alloc (by simp) _) _⟩

set_option maxHeartbeats 1000000 in
theorem cross_any (p q : V3) (w : World) : Calls Try.prog 52 #[p.val, q.val] w (GivesV (crossO p.ab q.ab) w) := by
  go_enter Try.func52, Try.ntmps52
  go_wp2_with (refine wpList_arith rfl _ _ _ _ _ rfl rfl _ _ (by rfl) (by rfl) ?_; intro r n hr hb)
  refine bodyPost_ret (v := V3.val ⟨_, _, _⟩) (by simp [results, Try.results52, go_sem]; exact ⟨rfl, rfl, rfl⟩) rfl ⟨⟨⟨_, _, _⟩, rfl, ?_, ?_⟩, ?_⟩
  · simp only [crossO, V3.ab, *]
  · exact ⟨by assumption, by assumption, by assumption⟩
  · exact below_drewN ((((Below.refl _ _).alloc (Nat.le_refl _) _).alloc (by simp) _).alloc (by simp; omega) _) _

theorem norm_any (p : V3) (w : World) : Calls Try.prog 50 #[p.val] w (GivesB (normO p.ab) w) := by
  go_enter Try.func50, Try.ntmps50
  go_wp2_with fail
  refine (dot_any p p _).mono ?_
  rintro e w1 ⟨⟨r, rfl, hr, hb⟩, hbl⟩
  go_wp2_with fail
  refine (sqrt_any _ _).mono ?_
  rintro e w2 ⟨⟨r2, rfl, hr2, hb2⟩, n, rfl⟩
  go_wp2_with fail
  go_ret
  exact ⟨⟨_, rfl, by simp only [normO, *], hb2⟩, below_drewN (((Below.refl _ _).alloc (Nat.le_refl _) _).trans (hbl.mono (by simp))) _⟩

end Go.Proofs.Qxb6614725a

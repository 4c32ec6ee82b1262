/-
  Polygon.edge (seat b6614725a): a region that draws its order and stores three vectors.
-/
import Derived.Test.Qxb6614725aVecB
import Derived.BigRegion
namespace Go.Proofs.Qxb6614725a
open Go.ChangeShapes Go.WideShapes Go.ChangeAt Go.RowKit Go.Flt
attribute [local go_sem] run_store_float alloc_drewN setCell_drewN

/-- The cells of a polygon that has vertices and normals alone. -/
def poly (va vb : Option Addr) (n : Nat) : Array Value :=
  #[.slice va n n, .slice vb n n, .slice none 0 0, .float .f64 0, .float .f64 0, .float .f64 0, .float .f64 0, .float .f64 0, .float .f64 0, .bool false, .slice none 0 0, .float .f64 0, .float .f64 0, .float .f64 0, .float .f64 0]

/-- The vectors lie one behind the other from the head of block b on. -/
def VecsAt (w : World) (b : Nat) (vs : List V3) : Prop := ∀ j (h : j < vs.length), w.cell? ⟨b, j * 3, none⟩ = some (.float .f64 vs[j].x) ∧ w.cell? ⟨b, j * 3 + 1, none⟩ = some (.float .f64 vs[j].y) ∧ w.cell? ⟨b, j * 3 + 2, none⟩ = some (.float .f64 vs[j].z)

theorem VecsAt.below {w w' : World} {b B : Nat} {vs : List V3} (h : VecsAt w b vs) (hb : Below B w w') (hB : b < B) : VecsAt w' b vs := by
  intro j hj
  rw [hb.cell hB, hb.cell hB, hb.cell hB]
  exact h j hj

theorem VecsAt.lt {w : World} {b : Nat} {vs : List V3} (h : VecsAt w b vs) (hl : 0 < vs.length) : b < w.heap.size :=
  World.block_lt_of_cell? _ _ (h 0 hl).1

set_option maxHeartbeats 4000000 in
theorem edge_lit (va vb n k : Nat) (a b m : V3) (w : World) (hk : k < n) (hn : n ≤ 16384)
   (a0 : w.cell? ⟨va, k * 3, none⟩ = some (.float .f64 a.x)) (a1 : w.cell? ⟨va, k * 3 + 1, none⟩ = some (.float .f64 a.y)) (a2 : w.cell? ⟨va, k * 3 + 2, none⟩ = some (.float .f64 a.z))
   (m0 : w.cell? ⟨vb, k * 3, none⟩ = some (.float .f64 m.x)) (m1 : w.cell? ⟨vb, k * 3 + 1, none⟩ = some (.float .f64 m.y)) (m2 : w.cell? ⟨vb, k * 3 + 2, none⟩ = some (.float .f64 m.z))
   (k2 : Nat) (hk2 : k2 = (k + 1) % n)
   (b0 : w.cell? ⟨va, k2 * 3, none⟩ = some (.float .f64 b.x)) (b1 : w.cell? ⟨va, k2 * 3 + 1, none⟩ = some (.float .f64 b.y)) (b2 : w.cell? ⟨va, k2 * 3 + 2, none⟩ = some (.float .f64 b.z)) :
    Calls Try.prog 46 #[.agg (poly (some ⟨va, 0, none⟩) (some ⟨vb, 0, none⟩) n), .int .i64 k] w fun e w' => e = .returned (.tuple #[a.val, b.val, m.val]) ∧ Below w.heap.size w w' := by
  have hva := World.block_lt_of_cell? _ _ a0
  have hvb := World.block_lt_of_cell? _ _ m0
  simp only at hva hvb
  have va1 : va < w.heap.size + 1 := by omega
  have va2 : va < w.heap.size + 1 + 1 := by omega
  have va3 : va < w.heap.size + 1 + 1 + 1 := by omega
  have vb1 : vb < w.heap.size + 1 := by omega
  have vb2 : vb < w.heap.size + 1 + 1 := by omega
  have vb3 : vb < w.heap.size + 1 + 1 + 1 := by omega
  unfold poly
  have hk1 : (k : Int) < n := by omega
  have hn1 : (n : Int) ≤ 16384 := by omega
  have hk0 : (0 : Int) ≤ k := by omega
  have hm : ((k : Int) + 1) % (n : Int) = (k2 : Int) := by rw [hk2]; simp
  have hk2l : k2 < n := by rw [hk2]; exact Nat.mod_lt _ (by omega)
  have hk21 : (k2 : Int) < n := by omega
  have hk20 : (0 : Int) ≤ k2 := by omega
  have hn0 : ¬ n = 0 := by omega
  clear hk2
  go_enter Try.func46, Try.ntmps46
  go_wp2_with fail
  go_region
  all_goals
    go_wp2_with fail
    refine bodyPost_ret (v := .tuple #[a.val, b.val, m.val]) (by simp [results, Try.results46, go_sem]) rfl ⟨rfl, ?_⟩
    exact (((((Below.refl _ _).alloc (Nat.le_refl _) _).alloc (by simp) _).alloc (by simp; omega) _).alloc (by simp; omega) _).drew

theorem edge_any (va vb : Nat) (vs ns : List V3) (k : Nat) (w : World) (hk : k < vs.length) (hl : ns.length = vs.length) (hn : vs.length ≤ 16384) (hv : VecsAt w va vs) (hs : VecsAt w vb ns) :
    Calls Try.prog 46 #[.agg (poly (some ⟨va, 0, none⟩) (some ⟨vb, 0, none⟩) vs.length), .int .i64 k] w fun e w' =>
      e = .returned (.tuple #[vs[k].val, (vs[(k + 1) % vs.length]'(Nat.mod_lt _ (by omega))).val, (ns[k]'(by omega)).val]) ∧ Below w.heap.size w w' := by
  have hm : (k + 1) % vs.length < vs.length := Nat.mod_lt _ (by omega)
  exact edge_lit va vb vs.length k vs[k] vs[(k + 1) % vs.length] ns[k] w hk hn (hv k hk).1 (hv k hk).2.1 (hv k hk).2.2 (hs k (by omega)).1 (hs k (by omega)).2.1 (hs k (by omega)).2.2 _ rfl (hv _ hm).1 (hv _ hm).2.1 (hv _ hm).2.2

end Go.Proofs.Qxb6614725a

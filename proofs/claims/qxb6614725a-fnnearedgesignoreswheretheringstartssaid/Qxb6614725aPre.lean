/-
  What the two laws on nearEdges stand on (seat b6614725a): each callee at whatever slices came in.
-/
import Derived.Test.Qxb6614725aHit
import Derived.Lib.SlBuf
namespace Go.Proofs.Qxb6614725a
open Go.ChangeShapes Go.WideShapes Go.ChangeAt Go.RowKit Go.Flt
attribute [local go_sem] run_eql41

/-- The V structs of a slice that came in: none; or they lie there. -/
def Came (w : World) (a : Option Addr) (vs : List V3) : Prop := vs = [] ∨ ∃ b off, a = some ⟨b, off, none⟩ ∧ ∀ j (h : j < vs.length), w.cell? ⟨b, off + j * 3, none⟩ = some (.float .f64 vs[j].x) ∧ w.cell? ⟨b, off + j * 3 + 1, none⟩ = some (.float .f64 vs[j].y) ∧ w.cell? ⟨b, off + j * 3 + 2, none⟩ = some (.float .f64 vs[j].z)

theorem Came.below {w w' : World} {a : Option Addr} {vs : List V3} (h : Came w a vs) (hb : Below w.heap.size w w') : Came w' a vs := by
  rcases h with h | ⟨b, off, rfl, h⟩
  · exact .inl h
  · refine .inr ⟨b, off, rfl, fun j hj => ?_⟩
    have hlt := World.block_lt_of_cell? _ _ (h j hj).1
    simp only at hlt
    rw [hb.cell hlt, hb.cell hlt, hb.cell hlt]
    exact h j hj

theorem EdgesAt.below {w w' : World} {a : Option Addr} {es : List Nat} (h : EdgesAt w a es) (hb : Below w.heap.size w w') : EdgesAt w' a es := by
  rcases h with h | ⟨b, off, rfl, h⟩
  · exact .inl h
  · exact .inr ⟨b, off, rfl, fun j hj => (hb.cell (World.block_lt_of_cell? _ _ (h j hj))).trans (h j hj)⟩

theorem zzVecs_zero (x : Addr) (cap : Nat) (w : World) : Calls Try.prog 23 #[.slice (some x) 0 cap] w fun e w' => (∃ a', e = .returned (.slice a' 0 0) ∧ RowOf w' a' []) ∧ Below w.heap.size w w' := by
  have hmk := fun w => run_make46 0 (by omega) w
  simp only [Int.natCast_zero] at hmk
  have hB0 : Below w.heap.size w (w.alloc (.cells (madeCells z3 (0 * 3)) 49)) := (Below.refl _ _).alloc (Nat.le_refl _) _
  go_enter Try.func23, Try.ntmps23
  go_wp2_with fail
  go_loopw [12] (fun i wr => i = .int .i64 0 ∧ wr = w.alloc (.cells (madeCells z3 (0 * 3)) 49)) (fun _ _ => 0)
  case atStart => exact ⟨rfl, rfl⟩
  case round =>
    obtain ⟨rfl, rfl⟩ := hrel
    go_wp2_with fail
    go_ret
    exact ⟨⟨_, rfl, .inr ⟨w.heap.size, rfl, ⟨fun j h => absurd h (Nat.not_lt_zero j), by simp⟩⟩⟩, hB0⟩

theorem zzVecs_nil (cap : Nat) (w : World) : Calls Try.prog 23 #[.slice none 0 cap] w fun e w' => (∃ a', e = .returned (.slice a' 0 0) ∧ RowOf w' a' []) ∧ Below w.heap.size w w' := by
  go_enter Try.func23, Try.ntmps23
  go_wp2_with fail
  go_ret
  exact ⟨⟨_, rfl, .inl ⟨rfl, rfl⟩⟩, Below.refl _ _⟩

theorem vecs_came (a : Option Addr) (vs : List V3) (cap : Nat) (w : World) (hn : vs.length ≤ 16384) (hv : Came w a vs) :
    Calls Try.prog 23 #[.slice a vs.length cap] w fun e w' => (∃ a', e = .returned (.slice a' vs.length vs.length) ∧ RowOf w' a' vs) ∧ Below w.heap.size w w' := by
  rcases hv with rfl | ⟨b, off, rfl, hv⟩
  · cases a with
    | none => exact zzVecs_nil cap w
    | some x => exact zzVecs_zero x cap w
  · refine (zzVecs_some b off vs cap w hn hv).mono ?_
    rintro e w' ⟨⟨ob, rfl, h1, _, h3⟩, hb⟩
    exact ⟨⟨_, rfl, .inr ⟨ob, rfl, h1, h3⟩⟩, hb⟩

theorem hit_nobox (va na ea : Option Addr) (n1 c1 n2 c2 n3 c3 : Nat) (p : V3) (w : World) (hp : boxedO p.ab (ab 4607182418800017408) = false) :
    Calls Try.prog 26 #[.slice va n1 c1, .slice na n2 c2, p.val, .slice ea n3 c3] w fun e w' => e = .returned (.bool false) ∧ Below w.heap.size w w' := by
  have hB0 : Below w.heap.size w (w.alloc (.cells p.cells 31)) := (Below.refl _ _).alloc (Nat.le_refl _) _
  have HP : Hid (boxedO p.ab (ab 4607182418800017408) = false) := hp
  clear hp
  go_enter Try.func26, Try.ntmps26
  go_wp2_with fail
  refine (boxed_any p _ _).mono ?_
  rintro e W0 ⟨rfl, hb0⟩
  rw [HP.out]
  go_wp2_with fail
  go_ret
  exact ⟨rfl, hB0.trans (hb0.mono hB0.size)⟩

theorem hit_empty (va na ea : Option Addr) (n1 c1 n2 c2 c3 : Nat) (p : V3) (w : World) :
    Calls Try.prog 26 #[.slice va n1 c1, .slice na n2 c2, p.val, .slice ea 0 c3] w fun e w' => e = .returned (.bool false) ∧ Below w.heap.size w w' := by
  have hB0 : Below w.heap.size w (w.alloc (.cells p.cells 31)) := (Below.refl _ _).alloc (Nat.le_refl _) _
  go_enter Try.func26, Try.ntmps26
  go_wp2_with fail
  refine (boxed_any p _ _).mono ?_
  rintro e W0 ⟨rfl, hb0⟩
  have hB1 := hB0.trans (hb0.mono hB0.size)
  generalize boxedO p.ab (ab 4607182418800017408) = c
  cases c
  · go_wp2_with fail
    go_ret
    exact ⟨rfl, hB1⟩
  · go_wp2_with fail
    go_loopw [22] (fun i wr => i = .int .i64 0 ∧ wr = W0) (fun _ _ => 0)
    case atStart => exact ⟨rfl, rfl⟩
    case round =>
      obtain ⟨rfl, rfl⟩ := hrel
      go_wp2_with fail
      go_ret
      exact ⟨rfl, hB1⟩

/-- zzEndpointHit at whatever slices came in. -/
theorem hit_any (va na : Option Addr) (vs ns : List V3) (vc nc : Nat) (p : V3) (ea : Option Addr) (es : List Nat) (cap : Nat) (w : World) (hl : ns.length = vs.length) (hn : vs.length ≤ 16384) (hel : es.length ≤ 65536) (hek : ∀ k ∈ es, k < vs.length)
    (hv : Came w va vs) (hs : Came w na ns) (he : EdgesAt w ea es) :
    Calls Try.prog 26 #[.slice va vs.length vc, .slice na vs.length nc, p.val, .slice ea es.length cap] w fun e w' => e = .returned (.bool (boxedO p.ab (ab 4607182418800017408) && es.any (hitK vs ns p))) ∧ Below w.heap.size w w' := by
  cases hp : boxedO p.ab (ab 4607182418800017408)
  · exact hit_nobox va na ea _ _ _ _ _ _ p w hp
  cases es with
  | nil => exact hit_empty va na ea _ _ _ _ _ p w
  | cons k es =>
    have hk := hek k (by simp)
    rcases hv with rfl | ⟨vb, vo, rfl, hv⟩
    · cases hk
    rcases hs with rfl | ⟨nb, no, rfl, hs⟩
    · simp at hl; omega
    rw [Bool.true_and]
    exact hit_some vb vo nb no vs ns vc nc p ea (k :: es) cap w hl hn hel hek hv hs he hp

/-- A polygon of the law's own making: where it lies, and what it holds. -/
def PolyAt (w : World) (pb : Nat) (vs ns : List V3) : Prop := pb < w.heap.size ∧ (vs = [] ∨ ∃ va vb, w.rangeAt pb 0 (poly (some ⟨va, 0, none⟩) (some ⟨vb, 0, none⟩) vs.length).toList ∧ VecsAt w va vs ∧ VecsAt w vb ns)

theorem PolyAt.below {w w' : World} {pb : Nat} {vs ns : List V3} (h : PolyAt w pb vs ns) (hl : ns.length = vs.length) (hb : Below w.heap.size w w') : PolyAt w' pb vs ns := by
  obtain ⟨h1, h2⟩ := h
  refine ⟨Nat.lt_of_lt_of_le h1 hb.size, ?_⟩
  rcases h2 with h2 | ⟨va, vb, h2, h3, h4⟩
  · exact .inl h2
  · by_cases h0 : vs = []
    · exact .inl h0
    · have hpos : 0 < vs.length := List.length_pos_iff.2 h0
      exact .inr ⟨va, vb, fun i v hi => by rw [hb.cell h1]; exact h2 i v hi, h3.below hb (h3.lt hpos), h4.below hb (h4.lt (by omega))⟩

theorem poly_new (w : World) (va vb : Option Addr) (vs ns : List V3) (hl : ns.length = vs.length) (hv : RowOf w va vs) (hs : RowOf w vb ns) : PolyAt (w.alloc (.cells (poly va vb vs.length) 71)) w.heap.size vs ns := by
  refine ⟨by simp, ?_⟩
  by_cases h0 : vs = []
  · exact .inl h0
  · have hpos : 0 < vs.length := List.length_pos_iff.2 h0
    rcases hv with ⟨_, hv⟩ | ⟨a, rfl, hv, hva⟩
    · exact absurd hv h0
    rcases hs with ⟨_, hs⟩ | ⟨b, rfl, hs, hsb⟩
    · rw [hs] at hl; simp at hl; omega
    refine .inr ⟨a, b, ?_, ?_, ?_⟩
    · intro j v hj
      rw [Nat.zero_add, World.cell?_alloc_new]
      simpa using hj
    · exact hv.below ((Below.refl w.heap.size w).alloc (Nat.le_refl _) _) hva
    · exact hs.below ((Below.refl w.heap.size w).alloc (Nat.le_refl _) _) hsb

/-- ZZnearEdges at a polygon of the law's own making. -/
theorem znear_any (pb : Nat) (vs ns : List V3) (p : V3) (ea : Option Addr) (es : List Nat) (cap : Nat) (w : World) (hl : ns.length = vs.length) (hn : vs.length ≤ 16384) (hel : es.length ≤ 65536) (hek : ∀ k ∈ es, k < vs.length)
    (hP : PolyAt w pb vs ns) (he : EdgesAt w ea es) :
    Calls Try.prog 25 #[.pointer (some ⟨pb, 0, none⟩), p.val, .slice ea es.length cap] w fun e w' => e = .returned (.bool (es.any (nearK vs ns p))) ∧ Below w.heap.size w w' := by
  refine ZZnear_any _ p ea es.length cap w _ (fun w1 hb => ?_)
  cases es with
  | nil => exact near_empty _ p ea cap w1
  | cons k es =>
    have hk := hek k (by simp)
    obtain ⟨_, hP2⟩ := hP.below hl hb
    rcases hP2 with rfl | ⟨va, vb, h1, h2, h3⟩
    · cases hk
    exact near_any pb va vb vs ns p ea (k :: es) cap w1 hl hn hel hek h1 h2 h3 (he.below hb)

end Go.Proofs.Qxb6614725a

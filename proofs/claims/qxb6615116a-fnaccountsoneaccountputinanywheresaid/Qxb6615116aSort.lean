/-
  sort.Slice, laid at this dump, and the closure of Weights.accounts (seat b6615116a).
-/
import Derived.Test.Qxb6615116aLoop
import Derived.Shelf.GgSortFunc.Whole
import Derived.Shelf.GgSortFunc.Tiny
import Derived.Shelf.Lay
import Derived.Deep.QuietTactic
import Derived.Ground.GgsProg
import Derived.Lib.RowBridge
import Derived.Lib.SortBridge
import Derived.Sort.LotA
namespace Go.Proofs
open Go.Shelf
shelf_lay LaysGg.n6 Ggs 6 at Try as Try.sl6
end Go.Proofs
namespace Go.Proofs.Qxb6615116a
open Go.RowKit Go.Shelf Go.Lib Go.Sort
set_option linter.unusedVariables false

def nm (names : List ByteArray) (i : Nat) : ByteArray := names.getD i ⟨#[]⟩
def ltN (names : List ByteArray) (i j : Nat) : Bool := Op.bytesLess (nm names i).toList (nm names j).toList
theorem less_lt : ∀ a b : List UInt8, Op.bytesLess a b = decide (a < b)
  | _, [] => by simp [Op.bytesLess]
  | [], _ :: _ => by simp [Op.bytesLess]
  | a :: x, b :: y => by
    have ih := less_lt x y
    simp only [Op.bytesLess, ih]
    by_cases h1 : a < b
    · simp [h1, List.cons_lt_cons_iff]
    · by_cases h2 : a = b
      · subst h2
        simp [h1]
      · simp [List.cons_lt_cons_iff, h1, h2]
theorem swoN (names : List ByteArray) : SWO (ltN names) where
  irrefl x := by simp only [ltN, less_lt, decide_eq_false_iff_not]; exact List.lt_irrefl _
  trans x y z h1 h2 := by simp only [ltN, less_lt, decide_eq_true_eq] at *; exact List.lt_trans h1 h2
  ntrans x y z h1 h2 := by
    simp only [ltN, less_lt, decide_eq_false_iff_not, List.not_lt] at *
    exact List.le_trans h2 h1

abbrev encN (i : Nat) : Value := .int .i64 (i : Int)

set_option maxHeartbeats 4000000 in
theorem less_any (box p3 blk off c size : Nat) (na : Option Addr) (nc : Nat) (names : List ByteArray) (W : World) (G : Nat → Nat) (hnb : W.cell? ⟨box, 0, none⟩ = some (.slice na names.length nc)) (hs : W.cell? ⟨p3, 0, none⟩ = some (.slice (some ⟨blk, off, none⟩) size c))
    (hc : ∀ t, t < size → W.cell? ⟨blk, off + t, none⟩ = some (encN (G t))) (hG : ∀ t, t < size → G t < names.length) (hN : NamesAt W na names) (hl : names.length ≤ 1048577) (i j : Nat) (hi : i < size) (hj : j < size) :
    Calls Try.prog 17 #[.int .i64 i, .int .i64 j, .pointer (some ⟨box, 0, none⟩), .pointer (some ⟨p3, 0, none⟩)] W fun e w' => e = .returned (.bool (ltN names (G i) (G j))) ∧ ∃ q, w' = W.drewN q := by
  have ci := hc i hi
  have cj := hc j hj
  have gi := hG i hi
  have gj := hG j hj
  rcases hN with h0 | ⟨b, o, rfl, hN⟩
  · rw [h0] at gi; cases gi
  have ni := hN _ gi
  have nj := hN _ gj
  have e1 : nm names (G i) = names[G i] := by unfold nm; rw [List.getD_eq_getElem?_getD, List.getElem?_eq_getElem gi]; rfl
  have e2 : nm names (G j) = names[G j] := by unfold nm; rw [List.getD_eq_getElem?_getD, List.getElem?_eq_getElem gj]; rfl
  unfold ltN
  rw [e1, e2]
  have gi1 : ((G i : Nat) : Int) < names.length := by omega
  have gj1 : ((G j : Nat) : Int) < names.length := by omega
  clear hc hG hN e1 e2
  generalize names[G i] = si at *
  generalize names[G j] = sj at *
  generalize G i = x at *
  generalize G j = y at *
  go_enter Try.func17, Try.ntmps17
  go_wp2_with fail
  go_quiet (fail)
  go_wp2_with fail
  go_ret
  exact ⟨rfl, nq, rfl⟩

noncomputable def siT : TypeInfo := (Try.prog.info? 26).get (by kernel_rfl)
noncomputable def siE : TypeInfo := (Try.prog.info? 3).get (by kernel_rfl)
theorem siK (n : Nat) (h2 : 2 ≤ n) : Lib.swapperK n siE 2 = 5 := by
  have a : siE.hasPointers = false := by kernel_rfl
  have b : siE.bytes = 8 := by kernel_rfl
  have c : (n == 0) = false := by simp; omega
  have d : (n == 1) = false := by simp; omega
  simp [Lib.swapperK, a, b, c, d]

abbrev encF {k : Nat} (i : Fin (k + 1)) : Value := .int .i64 ((i : Nat) : Int)
def ltF (names : List ByteArray) {k : Nat} (i j : Fin (k + 1)) : Bool := ltN names i j
theorem swoF (names : List ByteArray) (k : Nat) : SWO (ltF names (k := k)) where
  irrefl x := (swoN names).irrefl _
  trans x y z := (swoN names).trans _ _ _
  ntrans x y z := (swoN names).ntrans _ _ _

set_option maxHeartbeats 4000000 in
/-- 2 elements or more. -/
theorem sort_some (box p3 blk c : Nat) (na : Option Addr) (nc : Nat) (names : List ByteArray) (k : Nat) (hk : names.length = k + 1) (d : Array (Fin (k + 1))) (h2 : 2 ≤ d.size) (h12 : d.size < 4611686018427387904) (w : World)
    (hbox : w.cell? ⟨box, 0, none⟩ = some (.slice na names.length nc)) (hp3 : w.cell? ⟨p3, 0, none⟩ = some (.slice (some ⟨blk, 0, none⟩) d.size c)) (hN : NamesAt w na names) (hl : names.length ≤ 1048577)
    (hH : Holds encF w blk 0 d) (hblk : blk < w.heap.size) (hb1 : box ≠ blk) (hb2 : p3 ≠ blk) (hb3 : ∀ a, na = some a → a.block ≠ blk) :
    Calls Try.prog 16 #[.iface 26 (.slice (some ⟨blk, 0, none⟩) d.size c), .func (.func 17) #[] #[.pointer (some ⟨box, 0, none⟩), .pointer (some ⟨p3, 0, none⟩)]] w fun e w' =>
      e = .returned (.tuple #[]) ∧ ∃ d' n os, PermIn 0 d.size d d' ∧ SortedIn (ltF names) 0 d.size d' ∧ w' = grow (putRow encF (Sort.ahead w n) blk 0 d') os := by
  have hless : LessReads Try.prog 17 #[.pointer (some ⟨box, 0, none⟩), .pointer (some ⟨p3, 0, none⟩)] encF (ltF names (k := k)) blk 0 d.size w := by
    intro m os dk hs i j hi hj
    have e : sortWorld encF w blk 0 m dk os = putRow encF (grow (Sort.ahead w m) os) blk 0 dk := by
      unfold sortWorld; rw [putRow_grow _ (Sort.ahead w m) _ blk 0 _ hblk]
    have hHg : Holds encF (grow (Sort.ahead w m) os) blk 0 d := holds_grow _ _ _ blk 0 d hblk (holds_ahead _ _ _ _ _ _ hH)
    have old : ∀ b o v, b ≠ blk → w.cell? ⟨b, o, none⟩ = some v → (sortWorld encF w blk 0 m dk os).cell? ⟨b, o, none⟩ = some v := by
      intro b o v hb hv
      rw [e, cell?_putRow_other _ _ blk 0 dk _ (Or.inl hb), cell?_grow (Sort.ahead w m) _ _ (show b < w.heap.size from World.block_lt_of_cell? _ _ hv)]
      exact hv
    refine less_any box p3 blk 0 c d.size na nc names _ (fun t => (dk[t]! : Fin (k + 1)).val) (old _ _ _ hb1 hbox) (old _ _ _ hb2 hp3) (fun t ht => ?_) (fun t _ => by rw [hk]; exact (dk[t]!).isLt) ?_ hl i j hi hj
    · rw [e]; exact cell?_putRow _ _ blk 0 d dk hHg hs t (by omega)
    · rcases hN with h | ⟨b, off, rfl, h⟩
      · exact .inl h
      · exact .inr ⟨b, off, rfl, fun i hi => old _ _ _ (hb3 _ rfl) (h i hi)⟩
  have hS := Any.sort_Slice_sorted Try.sl6 26 3 siT siE (by kernel_rfl) (by kernel_rfl) (by kernel_rfl) (by kernel_rfl) 2 (fun _ => by kernel_rfl) (by kernel_rfl) (fun _ => by kernel_rfl) (encF (k := k)) (fun _ => rfl) (ltF names) (swoF names k) 17 _
    (enters_of Try.func17 (by kernel_rfl) rfl) blk 0 c d h2 h12 36 (by rw [siK _ h2]; kernel_rfl) true
    (fun args W => run_callFunc_extern Try.func36 (by kernel_rfl) (by kernel_rfl) (by kernel_rfl) (e := Extern.ReflectliteSwapper.swap true) (by kernel_rfl) args W) _ hless hH hblk
  change Calls Try.prog 16 _ _ _ at hS
  exact hS

/-- None or one. -/
theorem sort_tiny (p : Option Addr) (n c : Nat) (h1 : n ≤ 1) (lb : Array Value) (W : World) :
    Calls Try.prog 16 #[.iface 26 (.slice p n c), .func (.func 17) #[] lb] W fun e w' => e = .returned (.tuple #[]) ∧ ∃ os, w' = grow W os := by
  have hK : Lib.swapperK n siE 2 = n + 1 := by
    rcases Nat.eq_zero_or_pos n with h | h
    · subst h; simp [Lib.swapperK]
    · obtain rfl : n = 1 := by omega
      simp [Lib.swapperK]
  have hS := Any.sort_Slice_tiny Try.sl6 26 3 siT siE (by kernel_rfl) (by kernel_rfl) (by kernel_rfl) (by kernel_rfl) 2 (fun _ => by kernel_rfl) p n c h1 (32 + n) (by
    rw [hK]
    rcases Nat.eq_zero_or_pos n with h | h
    · subst h; kernel_rfl
    · obtain rfl : n = 1 := by omega
      kernel_rfl) (.func 17) #[] lb W
  change Calls Try.prog 16 _ _ _ at hS
  exact hS

end Go.Proofs.Qxb6615116a

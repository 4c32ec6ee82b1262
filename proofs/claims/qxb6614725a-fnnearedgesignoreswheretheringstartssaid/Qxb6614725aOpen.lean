/-
  The arguments of the two statements on nearEdges (seat b6614725a), opened: a slice of vectors, a vector, a slice of int32.
-/
import Derived.Test.Qxb6614725aRows
import Derived.Test.Qxb6614725aLawA
import Derived.Test.Qxb6614725aPlainB
import Derived.ProofKit
import Derived.OpenShut
import Derived.Below
import Derived.Lib.SmallJoins
namespace Go.Proofs.Qxb6614725a
open Go.ChangeShapes Go.WideShapes Go.ChangeAt Go.RowKit Go.Flt

instance : Inhabited V3 := ⟨V3.zero⟩

theorem own : ownKnob Try.prog.godebug = none := by kernel_rfl
theorem laidOut : laidOutB Try.prog = true := by kernel_rfl

section
variable {H : Type} {enc : TypeId × Value → H} {w : World} {base : Nat} {spare : Nat → Bool} {held : Bool}

theorem trod_float64 {fuel : Nat} {cs : List Value} {x : DataW H × List MemPlace} (h : DataW.trod enc Try.prog w base spare held fuel 29 cs = some x) : ∃ b, cs = [.float .f64 b] := by
  have ht : Try.prog.underlying 29 = some (.float .f64) := Try.underlying29
  cases fuel with
  | zero => simp [DataW.trod] at h
  | succ n =>
    unfold DataW.trod at h
    rw [ht] at h
    split at h <;> simp_all

theorem trod_v3 {fuel : Nat} {cs : List Value} {x : DataW H × List MemPlace} (h : DataW.trod enc Try.prog w base spare held fuel 31 cs = some x) : ∃ p : V3, cs = [.float .f64 p.x, .float .f64 p.y, .float .f64 p.z] := by
  obtain ⟨y0, y1, y2, n, _, hl, h0, h1, h2⟩ := Deep.trod_struct3 Try.underlying31 h
  have hC : Try.prog.cellsOf 31 = 3 := by kernel_rfl
  have hF : Try.prog.cellsOf 29 = 1 := by kernel_rfl
  rw [hC] at hl
  match cs, hl with
  | [c0, c1, c2], _ =>
    simp only [hF] at h0 h1 h2
    obtain ⟨b0, e0⟩ := trod_float64 h0
    obtain ⟨b1, e1⟩ := trod_float64 h1
    obtain ⟨b2, e2⟩ := trod_float64 h2
    simp at e0 e1 e2
    exact ⟨⟨b0, b1, b2⟩, by simp [e0, e1, e2]⟩

theorem open_vecs {r : Reach} {b0 : Nat} {v : Value} {d : DataW H} {ps : List MemPlace} (hv : Value.okWide Try.prog w r b0 41 v) (h : DataW.Trod enc Try.prog w base spare held 41 v d ps) :
    ∃ a vs cap, v = .slice a (List.length vs) cap ∧ vs.length ≤ maxLen ∧ Came w a vs := by
  obtain ⟨a, len, cap, rfl⟩ := okWide_slice Try.underlying41 hv
  obtain ⟨fuel, hf⟩ := h
  rcases Deep.open_slice Try.underlying41 hf with ⟨hcs, _⟩ | ⟨x, l, c, m, n, D, Pl, hcs, hb, hl, hm, hmm, _, hx⟩
  · simp [Value.cells] at hcs
    obtain ⟨rfl, rfl, rfl⟩ := hcs
    exact ⟨none, [], 0, rfl, Nat.zero_le _, .inl rfl⟩
  · simp [Value.cells] at hcs
    obtain ⟨rfl, rfl, rfl⟩ := hcs
    have hC : Try.prog.cellsOf 31 = 3 := by kernel_rfl
    rw [hC] at hx
    have hlm : len ≤ m := by rw [hmm]; split <;> omega
    obtain ⟨V, hV⟩ := Deep.choose_lt (α := V3) (n := len) (p := fun i (p : V3) => w.cell? (x.add (i * 3)) = some (.float .f64 p.x) ∧ w.cell? ((x.add (i * 3)).add 1) = some (.float .f64 p.y) ∧ w.cell? ((x.add (i * 3)).add 2) = some (.float .f64 p.z)) (fun i hi => by
      obtain ⟨cs, h1, h2⟩ := hx i (by omega)
      obtain ⟨p, rfl⟩ := trod_v3 h2
      obtain ⟨_, _, h3⟩ := World.cells?_some h1
      exact ⟨p, by simpa [Addr.add] using h3 0 (by omega), by simpa using h3 1 (by omega), by simpa using h3 2 (by omega)⟩)
    refine ⟨some x, (List.range len).map V, cap, by simp, by simp; omega, ?_⟩
    by_cases h0 : len = 0
    · left; subst h0; rfl
    · right
      obtain ⟨b, off, spot⟩ := x
      have hspot : spot = none := by simpa [Addr.add] using World.cell?_spot (hV 0 (by omega)).1
      subst hspot
      refine ⟨b, off, rfl, fun j hj => ?_⟩
      have hj' : j < len := by simpa using hj
      have := hV j hj'
      simp only [add_plain] at this
      simp only [List.getElem_map, List.getElem_range]
      exact this

theorem open_vec {r : Reach} {b0 : Nat} {v : Value} {d : DataW H} {ps : List MemPlace} (hv : Value.okWide Try.prog w r b0 31 v) (h : DataW.Trod enc Try.prog w base spare held 31 v d ps) : ∃ p : V3, v = p.val := by
  obtain ⟨cs, rfl, hsz⟩ := okWide_struct Try.underlying31 hv
  obtain ⟨fuel, hf⟩ := h
  obtain ⟨p, hp⟩ := trod_v3 hf
  refine ⟨p, ?_⟩
  have : cs.toList = [.float .f64 p.x, .float .f64 p.y, .float .f64 p.z] := by simpa [Value.cells] using hp
  show Value.agg cs = .agg _
  congr 1
  rw [← Array.toList_inj, this]

theorem open_i32s {r : Reach} {b0 : Nat} {v : Value} {d : DataW H} {ps : List MemPlace} (hv : Value.okWide Try.prog w r b0 42 v) (h : DataW.Trod enc Try.prog w base spare held 42 v d ps) :
    ∃ a zs cap, v = .slice a (List.length zs) cap ∧ zs.length ≤ maxLen ∧ Ints w a zs ∧ (∀ z ∈ zs, -2147483648 ≤ z ∧ z ≤ 2147483647) ∧ (a = none → cap = 0) := by
  obtain ⟨a, len, cap, rfl⟩ := okWide_slice Try.underlying42 hv
  obtain ⟨fuel, hf⟩ := h
  rcases open_ints Try.underlying42 Try.underlying21 (by kernel_rfl) hf with ⟨hcs, _⟩ | ⟨x, l, c, zs, hcs, _, hl, hm, hz, _, hcell, hwz⟩
  · simp [Value.cells] at hcs
    obtain ⟨rfl, rfl, rfl⟩ := hcs
    exact ⟨none, [], 0, rfl, Nat.zero_le _, .inl rfl, by simp, fun _ => rfl⟩
  · simp [Value.cells] at hcs
    obtain ⟨rfl, rfl, rfl⟩ := hcs
    have hzl : len ≤ zs.length := by rw [hz]; split <;> omega
    refine ⟨some x, zs.take len, cap, by simp; omega, by simp; omega, ?_, ?_, by simp⟩
    · by_cases h0 : len = 0
      · left; subst h0; rfl
      · right
        obtain ⟨b, off, rfl, hc⟩ := ints_at hcell (by omega)
        refine ⟨b, off, rfl, fun j hj => ?_⟩
        have hj' : j < zs.length := by simp at hj; omega
        have := hc j hj'
        rw [List.getD_eq_getElem?_getD, List.getElem?_eq_getElem hj'] at this
        simpa using this
    · intro z hz
      have := hwz z (List.mem_of_mem_take hz)
      have h2 : IntKind.i32.min ≤ z ∧ z ≤ IntKind.i32.max := by simpa [Lit.wf] using this
      have e1 : IntKind.i32.min = -2147483648 := by decide +kernel
      have e2 : IntKind.i32.max = 2147483647 := by decide +kernel
      omega
end

end Go.Proofs.Qxb6614725a

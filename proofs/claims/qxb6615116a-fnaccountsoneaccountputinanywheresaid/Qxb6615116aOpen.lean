/-
  The arguments of the two statements on accounts (seat b6615116a), opened: a slice of strings, a slice of slices of int64, a slice of int64.
-/
import Derived.Test.Qxb6615116aRows
import Derived.Test.Qxb6615116aLoop
import Derived.ProofKit
import Derived.OpenShut
import Derived.Below
import Derived.SliceStrings
import Derived.Deep.Slices
namespace Go.Proofs.Qxb6615116a
open Go.ChangeShapes Go.WideShapes Go.ChangeAt Go.RowKit

theorem own : ownKnob Try.prog.godebug = none := by kernel_rfl
theorem laidOut : laidOutB Try.prog = true := by kernel_rfl

section
variable {H : Type} {enc : TypeId × Value → H} {w : World} {base : Nat} {spare : Nat → Bool} {held : Bool}

theorem ints_in {fuel : Nat} {cs : List Value} {x : DataW H × List MemPlace} (h : DataW.trod enc Try.prog w base spare held fuel 24 cs = some x) :
    ∃ a zs cap, cs = [.slice a (List.length zs) cap] ∧ zs.length ≤ maxLen ∧ Ints w a zs ∧ Fit zs := by
  rcases open_ints Try.underlying24 Try.underlying2 (by kernel_rfl) h with ⟨hcs, _⟩ | ⟨x, len, cap, zs, hcs, _, hl, hm, hz, _, hcell, hwz⟩
  · exact ⟨none, [], 0, by simpa using hcs, Nat.zero_le _, .inl rfl, fun _ h => by cases h⟩
  · have hzl : len ≤ zs.length := by rw [hz]; split <;> omega
    refine ⟨some x, zs.take len, cap, by rw [hcs]; simp; omega, by simp; omega, ?_, ?_⟩
    · by_cases h0 : len = 0
      · left; subst h0; rfl
      · right
        obtain ⟨b, off, rfl, hc⟩ := ints_at hcell (by omega)
        refine ⟨b, off, rfl, fun j hj => ?_⟩
        have hj' : j < zs.length := by simp at hj; omega
        have := hc j hj'
        rw [List.getD_eq_getElem?_getD, List.getElem?_eq_getElem hj'] at this
        simpa using this
    · intro z hz
      have := hwz z (List.mem_of_mem_take hz)
      have h2 : IntKind.i64.min ≤ z ∧ z ≤ IntKind.i64.max := by simpa [Lit.wf] using this
      have e1 : IntKind.i64.min = -9223372036854775808 := by decide +kernel
      have e2 : IntKind.i64.max = 9223372036854775807 := by decide +kernel
      omega

set_option maxRecDepth 100000 in
theorem open_adds {r : Reach} {b0 : Nat} {v : Value} {d : DataW H} {ps : List MemPlace} (hv : Value.okWide Try.prog w r b0 24 v) (h : DataW.Trod enc Try.prog w base spare held 24 v d ps) :
    ∃ a zs cap, v = .slice a (List.length zs) cap ∧ zs.length ≤ maxLen ∧ Ints w a zs ∧ Fit zs := by
  obtain ⟨a, len, cap, rfl⟩ := okWide_slice Try.underlying24 hv
  obtain ⟨fuel, hf⟩ := h
  obtain ⟨a, zs, cap, hcs, h1, h2, h3⟩ := ints_in hf
  simp [Value.cells] at hcs
  obtain ⟨rfl, rfl, rfl⟩ := hcs
  exact ⟨a, zs, cap, rfl, h1, h2, h3⟩

set_option maxRecDepth 100000 in
theorem open_names {r : Reach} {b0 : Nat} {v : Value} {d : DataW H} {ps : List MemPlace} (hv : Value.okWide Try.prog w r b0 22 v) (h : DataW.Trod enc Try.prog w base spare held 22 v d ps) :
    ∃ a ss cap, v = .slice a (List.length ss) cap ∧ ss.length ≤ maxLen ∧ NamesAt w a ss ∧ (∀ s ∈ ss, s.size ≤ maxLen) ∧ (a = none → cap = 0 ∧ ss = []) := by
  obtain ⟨a, len, cap, rfl⟩ := okWide_slice Try.underlying22 hv
  obtain ⟨fuel, hf⟩ := h
  rcases open_strings Try.underlying22 Try.underlying9 (by kernel_rfl) hf with ⟨hcs, _⟩ | ⟨x, l, c, zs, hcs, _, hl, hm, hz, _, hcell, hwz⟩
  · simp [Value.cells] at hcs
    obtain ⟨rfl, rfl, rfl⟩ := hcs
    exact ⟨none, [], 0, rfl, Nat.zero_le _, .inl rfl, (fun _ h => nomatch h), fun _ => ⟨rfl, rfl⟩⟩
  · simp [Value.cells] at hcs
    obtain ⟨rfl, rfl, rfl⟩ := hcs
    have hzl : len ≤ zs.length := by rw [hz]; split <;> omega
    refine ⟨some x, zs.take len, cap, by simp; omega, by simp; omega, ?_, fun s hs => hwz s (List.mem_of_mem_take hs), by simp⟩
    by_cases h0 : len = 0
    · left; subst h0; rfl
    · right
      obtain ⟨b, off, spot⟩ := x
      have hspot : spot = none := by simpa [Addr.add] using World.cell?_spot (hcell 0 (by omega))
      subst hspot
      refine ⟨b, off, rfl, fun j hj => ?_⟩
      have hj' : j < zs.length := by simp at hj; omega
      have := hcell j hj'
      rw [List.getD_eq_getElem?_getD, List.getElem?_eq_getElem hj', Addr.add_mid] at this
      simpa using this

set_option maxRecDepth 100000 in
theorem open_cols {r : Reach} {b0 : Nat} {v : Value} {d : DataW H} {ps : List MemPlace} (hv : Value.okWide Try.prog w r b0 23 v) (h : DataW.Trod enc Try.prog w base spare held 23 v d ps) :
    ∃ a cols cap, v = .slice a (List.length cols) cap ∧ cols.length ≤ cap ∧ cap ≤ maxLen ∧ ColsAt w a cols ∧ (∀ c ∈ cols, c.length ≤ maxLen ∧ Fit c) ∧ (a = none → cap = 0 ∧ cols = []) := by
  obtain ⟨a, len, cap, rfl⟩ := okWide_slice Try.underlying23 hv
  obtain ⟨fuel, hf⟩ := h
  rcases Deep.open_slice1 Try.underlying23 (by kernel_rfl) hf with ⟨hcs, _⟩ | ⟨x, l, c, m, n, V, D, Pl, hcs, hb, hl, hm, hmm, _, hx⟩
  · simp [Value.cells] at hcs
    obtain ⟨rfl, rfl, rfl⟩ := hcs
    exact ⟨none, [], 0, rfl, Nat.zero_le _, Nat.zero_le _, .inl rfl, (fun _ h => nomatch h), fun _ => ⟨rfl, rfl⟩⟩
  · simp [Value.cells] at hcs
    obtain ⟨rfl, rfl, rfl⟩ := hcs
    have hlm : len ≤ m := by rw [hmm]; split <;> omega
    obtain ⟨Z, hZ⟩ := Deep.choose_lt (α := List Int) (n := len) (p := fun i (zs : List Int) => ∃ ra rc, w.cell? (x.add i) = some (.slice ra zs.length rc) ∧ Ints w ra zs ∧ zs.length ≤ maxLen ∧ Fit zs) (fun i hi => by
      obtain ⟨h1, h2⟩ := hx i (by omega)
      obtain ⟨ra, zs, rc, hcs, k1, k2, k3⟩ := ints_in h2
      simp at hcs
      exact ⟨zs, ra, rc, by rw [h1, hcs], k2, k1, k3⟩)
    refine ⟨some x, (List.range len).map Z, cap, by simp, by simpa using hl, hm, ?_, ?_, by simp⟩
    · by_cases h0 : len = 0
      · left; subst h0; rfl
      · right
        obtain ⟨b, off, spot⟩ := x
        obtain ⟨_, _, h00, _⟩ := hZ 0 (by omega)
        have hspot : spot = none := by simpa [Addr.add] using World.cell?_spot h00
        subst hspot
        refine ⟨b, off, rfl, fun j hj => ?_⟩
        have hj' : j < len := by simpa using hj
        obtain ⟨ra, rc, k1, k2, _⟩ := hZ j hj'
        rw [Addr.add_mid] at k1
        simp only [List.getElem_map, List.getElem_range]
        exact ⟨ra, rc, k1, k2⟩
    · intro c hc
      obtain ⟨i, hi, rfl⟩ := List.mem_map.1 hc
      obtain ⟨_, _, _, _, k⟩ := hZ i (List.mem_range.1 hi)
      exact k
end

end Go.Proofs.Qxb6615116a

/-
  zzAccountsPutInPremise (seat b6615116a).
-/
import Derived.Test.Qxb6615116aLoop
import Derived.Deep.QuietTactic
namespace Go.Proofs.Qxb6615116a
open Go.RowKit
set_option linter.unusedVariables false

/-- What the premise says where it answers true. -/
structure Held (names : List ByteArray) (cols : List (List Int)) (p : Int) (nmv : ByteArray) (an : Nat) : Prop where
  p0 : 0 ≤ p
  p1 : p ≤ names.length
  adds : an = cols.length
  lens : ∀ c ∈ cols, c.length = names.length
  new : ∀ i (h : i < names.length), names[i].toList ≠ nmv.toList
  apart : ∀ i j (hj : j < names.length) (h : i < j), (names[i]'(by omega)).toList ≠ names[j].toList

def Prem (names : List ByteArray) (cols : List (List Int)) (p : Int) (nmv : ByteArray) (an : Nat) (e : Ending) : Prop := ∃ x, e = .returned (.bool x) ∧ (x = true → Held names cols p nmv an)

set_option maxRecDepth 100000 in
set_option maxHeartbeats 4000000 in
theorem premise_any (na : Option Addr) (names : List ByteArray) (nc : Nat) (wa : Option Addr) (cols : List (List Int)) (wcap : Nat) (p : Int) (nmv : ByteArray) (aa : Option Addr) (an ac : Nat) (w : World) (hn : names.length ≤ 1048576) (hm : cols.length ≤ 1048576) (ha : an ≤ 1048576) (hl : ∀ c ∈ cols, c.length ≤ 1048576)
    (hN : NamesAt w na names) (hC : ColsAt w wa cols) :
    Calls Try.prog 6 #[.slice na names.length nc, .slice wa cols.length wcap, .int .i64 p, .string nmv, .slice aa an ac] w fun e w' => Prem names cols p nmv an e ∧ Below w.heap.size w w' := by
  have hB0 := Below.refl w.heap.size w
  have HN : Hid (NamesAt w na names) := hN
  have HC : Hid (ColsAt w wa cols) := hC
  have HL : Hid (∀ c ∈ cols, c.length ≤ 1048576) := hl
  clear hN hC hl
  go_enter Try.func6, Try.ntmps6
  by_cases g1 : p < 0
  · go_wp2_with fail
    go_ret
    exact ⟨⟨_, rfl, fun h => by cases h⟩, hB0⟩
  have g1b : decide (p < 0) = false := by simpa using g1
  by_cases g2 : (names.length : Int) < p
  · go_wp2_with fail
    go_ret
    exact ⟨⟨_, rfl, fun h => by cases h⟩, hB0⟩
  have g2b : decide ((names.length : Int) < p) = false := by simpa using g2
  by_cases g3 : an = cols.length
  rotate_left
  · have g4 : ((an : Int) != (cols.length : Int)) = true := by simp; omega
    go_wp2_with fail
    go_ret
    exact ⟨⟨_, rfl, fun h => by cases h⟩, hB0⟩
  have g4 : ((an : Int) != (cols.length : Int)) = false := by simp [g3]
  go_wp2_with fail
  go_loop [12] (fun i => ∃ j : Nat, j ≤ cols.length ∧ i = .int .i64 j ∧ ∀ t (h : t < cols.length), t < j → cols[t].length = names.length) (fun i => cols.length - (intOf i).toNat)
  case atStart => exact ⟨0, Nat.zero_le _, rfl, fun _ _ h => absurd h (Nat.not_lt_zero _)⟩
  case round =>
  obtain ⟨j, hj, rfl, hq⟩ := hrel
  have HQ : Hid (∀ t (h : t < cols.length), t < j → cols[t].length = names.length) := hq
  clear hq
  by_cases hlt : j < cols.length
  · have hj1 : (j : Int) < cols.length := by omega
    have HE : Hid (cols[j].length = names.length → ∀ t (h : t < cols.length), t < j + 1 → cols[t].length = names.length) := by
      intro h t ht hj
      by_cases e : t = j
      · subst e; exact h
      · exact HQ.out t ht (by omega)
    rcases HC.out with h0 | ⟨b, off, rfl, hx⟩
    · rw [h0] at hlt; cases hlt
    obtain ⟨ra, rc, c1, _⟩ := hx j hlt
    have hsz := HL.out _ (List.getElem_mem hlt)
    clear hx
    generalize cols[j].length = s at *
    by_cases h3 : s = names.length
    · have h4 : ((s : Int) != (names.length : Int)) = false := by simp [h3]
      go_wp2_with fail
      go_round
      case rel => exact ⟨j + 1, by omega, by go_num, HE.out h3⟩
      case measure => simp [intOf]; omega
    · have h4 : ((s : Int) != (names.length : Int)) = true := by simp; omega
      go_wp2_with fail
      go_ret
      exact ⟨⟨_, rfl, fun h => by cases h⟩, hB0⟩
  have hge : (cols.length : Int) ≤ j := by omega
  have HE : Hid (∀ c ∈ cols, c.length = names.length) := by
    intro s hs
    obtain ⟨t, ht, rfl⟩ := List.getElem_of_mem hs
    exact HQ.out t ht (by omega)
  clear HQ
  go_wp2_with fail
  clear hlt hge hj
  go_loopw [13] (fun v wr => ∃ i : Nat, i ≤ names.length ∧ v = .int .i64 i ∧ Below w.heap.size w wr ∧ (∀ t (h : t < names.length), t < i → names[t].toList ≠ nmv.toList) ∧ ∀ t s (hs : s < names.length) (h : t < s), t < i → (names[t]'(by omega)).toList ≠ names[s].toList) (fun v _ => names.length - (intOf v).toNat)
  case atStart => exact ⟨0, Nat.zero_le _, rfl, hB0, fun _ _ h => absurd h (Nat.not_lt_zero _), fun _ _ _ _ h => absurd h (Nat.not_lt_zero _)⟩
  case round =>
  obtain ⟨i, hi, rfl, hbl, hq1, hq2⟩ := hrel
  have H1 : Hid (∀ t (h : t < names.length), t < i → names[t].toList ≠ nmv.toList) := hq1
  have H2 : Hid (∀ t s (hs : s < names.length) (h : t < s), t < i → (names[t]'(by omega)).toList ≠ names[s].toList) := hq2
  clear hq1 hq2 hB0
  by_cases hlt : i < names.length
  rotate_left
  · have hge : (names.length : Int) ≤ i := by omega
    have HH : Hid (Held names cols p nmv an) := ⟨by omega, by omega, g3, HE.out, fun t h => H1.out t h (by omega), fun t s hs h => H2.out t s hs h (by omega)⟩
    go_wp2_with fail
    go_ret
    exact ⟨⟨_, rfl, fun _ => HH.out⟩, hbl⟩
  have hi1 : (i : Int) < names.length := by omega
  have hx := HN.out
  rcases hx with h0 | ⟨b, off, rfl, hx⟩
  · rw [h0] at hlt; cases hlt
  have c1 := hx i hlt
  have d1 : wr.cell? ⟨b, off + i, none⟩ = some (.string names[i]) := by rw [hbl.cell (World.block_lt_of_cell? _ _ c1)]; exact c1
  have HX : Hid (∀ i (h : i < names.length), w.cell? ⟨b, off + i, none⟩ = some (.string names[i])) := hx
  clear hx c1 HN
  have HE1 : Hid (names[i].toList ≠ nmv.toList → ∀ t (h : t < names.length), t < i + 1 → names[t].toList ≠ nmv.toList) := by
    intro h t ht hj
    by_cases e : t = i
    · subst e; exact h
    · exact H1.out t ht (by omega)
  have HE2 : Hid ((∀ s (hs : s < names.length), i < s → names[i].toList ≠ names[s].toList) → ∀ t s (hs : s < names.length) (h : t < s), t < i + 1 → (names[t]'(by omega)).toList ≠ names[s].toList) := by
    intro h t s hs hts hj
    by_cases e : t = i
    · subst e; exact h s hs hts
    · exact H2.out t s hs hts (by omega)
  obtain ⟨si, hsi⟩ : ∃ si, si = names[i] := ⟨_, rfl⟩
  rw [← hsi] at d1
  have HSI : Hid (si = names[i]) := hsi
  clear hsi H1 H2
  by_cases e1 : si.toList = nmv.toList
  · have e2 : (si.toList == nmv.toList) = true := by simpa using e1
    go_wp2_with fail
    go_ret
    exact ⟨⟨_, rfl, fun h => by cases h⟩, hbl⟩
  have e2 : (si.toList == nmv.toList) = false := by simpa using e1
  go_wp2_with fail
  go_loopw [14] (fun v wr => ∃ j : Nat, i + 1 ≤ j ∧ j ≤ names.length ∧ v = .int .i64 j ∧ Below w.heap.size w wr ∧ ∀ s (hs : s < names.length), i < s → s < j → si.toList ≠ names[s].toList) (fun v _ => names.length - (intOf v).toNat)
  case atStart => exact ⟨i + 1, by omega, by omega, by go_num, hbl, fun s hs h1 h2 => by omega⟩
  case round =>
  clear hbl
  obtain ⟨j, hj0, hj, rfl, hbl, hq⟩ := hrel
  have HQ : Hid (∀ s (hs : s < names.length), i < s → s < j → si.toList ≠ names[s].toList) := hq
  clear hq d1
  by_cases hlj : j < names.length
  · have hj1 : (j : Int) < names.length := by omega
    have c1 := HX.out i hlt
    have c2 := HX.out j hlj
    rw [← HSI.out] at c1
    have k1 : wr.cell? ⟨b, off + i, none⟩ = some (.string si) := by rw [hbl.cell (World.block_lt_of_cell? _ _ c1)]; exact c1
    have k2 : wr.cell? ⟨b, off + j, none⟩ = some (.string names[j]) := by rw [hbl.cell (World.block_lt_of_cell? _ _ c2)]; exact c2
    have HE3 : Hid (si.toList ≠ names[j].toList → ∀ s (hs : s < names.length), i < s → s < j + 1 → si.toList ≠ names[s].toList) := by
      intro h s hs h1 h2
      by_cases e : s = j
      · subst e; exact h
      · exact HQ.out s hs h1 (by omega)
    clear c1 c2 HQ
    generalize names[j] = sj at *
    by_cases e3 : si.toList = sj.toList
    · have e4 : (si.toList == sj.toList) = true := by simpa using e3
      go_wp2_with fail
      go_quiet (fail)
      go_wp2_with fail
      go_ret
      exact ⟨⟨_, rfl, fun h => by cases h⟩, ⟨hbl.os, hbl.tape, hbl.output, hbl.size, hbl.block⟩⟩
    have e4 : (si.toList == sj.toList) = false := by simpa using e3
    go_wp2_with fail
    go_quiet (fail)
    go_wp2_with fail
    go_roundw
    case rel => exact ⟨j + 1, by omega, by omega, by go_num, ⟨hbl.os, hbl.tape, hbl.output, hbl.size, hbl.block⟩, HE3.out e3⟩
    case measure => simp [intOf]; omega
  have hge : (names.length : Int) ≤ j := by omega
  have HE4 : Hid (∀ s (hs : s < names.length), i < s → names[i].toList ≠ names[s].toList) := fun s hs h => by rw [← HSI.out]; exact HQ.out s hs h (by omega)
  go_wp2_with fail
  go_roundw
  case rel => exact ⟨i + 1, by omega, by go_num, hbl, HE1.out (by rw [← HSI.out]; exact e1), HE2.out HE4.out⟩
  case measure => simp [intOf]; omega

end Go.Proofs.Qxb6615116a

/-
  zzBytes of both laws: some bool (seat b6615116a).
-/
import Derived.Test.Qxb6615116aLoop
namespace Go.Proofs.Qxb6615116a
open Go.RowKit
set_option linter.unusedVariables false

/-- Some bool; true: all is short. -/
def Small (names : List ByteArray) (cols : List (List Int)) (e : Ending) : Prop := ∃ x, e = .returned (.bool x) ∧ (x = true → (∀ s ∈ names, s.size ≤ 1048576) ∧ ∀ c ∈ cols, c.length ≤ 1048576)

set_option maxHeartbeats 4000000 in
theorem zzBytes4_any (na : Option Addr) (names : List ByteArray) (nc : Nat) (wa : Option Addr) (cols : List (List Int)) (wc : Nat) (cut : Int) (w : World) (hn : names.length ≤ maxLen) (hm : cols.length ≤ maxLen) (hs : ∀ s ∈ names, s.size ≤ maxLen) (hl : ∀ c ∈ cols, c.length ≤ maxLen)
    (hN : NamesAt w na names) (hC : ColsAt w wa cols) :
    Calls Try.prog 11 #[.slice na names.length nc, .slice wa cols.length wc, .int .i64 cut] w fun e w' => Small names cols e ∧ w' = w := by
  unfold maxLen at *
  have HN : Hid (NamesAt w na names) := hN
  have HC : Hid (ColsAt w wa cols) := hC
  have HS : Hid (∀ s ∈ names, s.size ≤ 9223372036854775807) := hs
  have HL : Hid (∀ c ∈ cols, c.length ≤ 9223372036854775807) := hl
  clear hN hC hs hl
  go_enter Try.func11, Try.ntmps11
  by_cases h1 : 1048576 < (names.length : Int)
  · go_wp2_with fail
    go_ret
    exact ⟨⟨_, rfl, fun h => by cases h⟩, rfl⟩
  go_wp2_with fail
  go_loop [7, 8] (fun z i => ∃ j k : Nat, j ≤ names.length ∧ k ≤ 1048576 ∧ z = .int .i64 k ∧ i = .int .i64 j ∧ ∀ t (h : t < names.length), t < j → names[t].size ≤ 1048576) (fun _ i => names.length - (intOf i).toNat)
  case atStart => exact ⟨0, names.length, Nat.zero_le _, by omega, rfl, rfl, fun _ _ h => absurd h (Nat.not_lt_zero _)⟩
  case round =>
    obtain ⟨j, k, hj, hk, rfl, rfl, hso⟩ := hrel
    have HO : Hid (∀ t (h : t < names.length), t < j → names[t].size ≤ 1048576) := hso
    clear hso
    by_cases hlt : j < names.length
    · have HE : Hid (names[j].size ≤ 1048576 → ∀ t (h : t < names.length), t < j + 1 → names[t].size ≤ 1048576) := by
        intro h t ht hj
        by_cases e : t = j
        · subst e; exact h
        · exact HO.out t ht (by omega)
      have hj1 : (j : Int) < names.length := by omega
      rcases HN.out with h0 | ⟨b, off, rfl, hx⟩
      · rw [h0] at hlt; cases hlt
      have c1 := hx j hlt
      have hsz := HS.out _ (List.getElem_mem hlt)
      clear hx
      generalize names[j] = s at *
      by_cases h2 : 1048576 < (s.size : Int)
      · go_wp2_with fail
        go_ret
        exact ⟨⟨_, rfl, fun h => by cases h⟩, rfl⟩
      by_cases h3 : 1048576 < (k : Int) + s.size
      · go_wp2_with fail
        go_ret
        exact ⟨⟨_, rfl, fun h => by cases h⟩, rfl⟩
      go_wp2_with fail
      go_round
      case rel => exact ⟨j + 1, k + s.size, by omega, by omega, by go_num, by go_num, HE.out (by omega)⟩
      case measure => simp [intOf]; omega
    · have hge : (names.length : Int) ≤ j := by omega
      have HQ : Hid (∀ s ∈ names, s.size ≤ 1048576) := by
        intro s hs
        obtain ⟨t, ht, rfl⟩ := List.getElem_of_mem hs
        exact HO.out t ht (by omega)
      clear HO
      by_cases h4 : 1048576 < (cols.length : Int)
      · go_wp2_with fail
        go_ret
        exact ⟨⟨_, rfl, fun h => by cases h⟩, rfl⟩
      by_cases h5 : 1048576 < (k : Int) + cols.length
      · go_wp2_with fail
        go_ret
        exact ⟨⟨_, rfl, fun h => by cases h⟩, rfl⟩
      go_wp2_with fail
      go_loop [7, 9] (fun z i => ∃ j k : Nat, j ≤ cols.length ∧ k ≤ 1048576 ∧ z = .int .i64 k ∧ i = .int .i64 j ∧ ∀ t (h : t < cols.length), t < j → cols[t].length ≤ 1048576) (fun _ i => cols.length - (intOf i).toNat)
      case atStart => exact ⟨0, k + cols.length, Nat.zero_le _, by omega, by go_num, rfl, fun _ _ h => absurd h (Nat.not_lt_zero _)⟩
      case round =>
        obtain ⟨j, k, hj, hk, rfl, rfl, hso⟩ := hrel
        have HO : Hid (∀ t (h : t < cols.length), t < j → cols[t].length ≤ 1048576) := hso
        clear hso
        by_cases hlt : j < cols.length
        · have HE : Hid (cols[j].length ≤ 1048576 → ∀ t (h : t < cols.length), t < j + 1 → cols[t].length ≤ 1048576) := by
            intro h t ht hj
            by_cases e : t = j
            · subst e; exact h
            · exact HO.out t ht (by omega)
          have hj1 : (j : Int) < cols.length := by omega
          rcases HC.out with h0 | ⟨b, off, rfl, hx⟩
          · rw [h0] at hlt; cases hlt
          obtain ⟨ra, rc, c1, _⟩ := hx j hlt
          have hsz := HL.out _ (List.getElem_mem hlt)
          clear hx
          generalize cols[j].length = s at *
          by_cases h2 : 1048576 < (s : Int)
          · go_wp2_with fail
            go_ret
            exact ⟨⟨_, rfl, fun h => by cases h⟩, rfl⟩
          by_cases h3 : 1048576 < (k : Int) + s
          · go_wp2_with fail
            go_ret
            exact ⟨⟨_, rfl, fun h => by cases h⟩, rfl⟩
          go_wp2_with fail
          go_round
          case rel => exact ⟨j + 1, k + s, by omega, by omega, by go_num, by go_num, HE.out (by omega)⟩
          case measure => simp [intOf]; omega
        · have hge : (cols.length : Int) ≤ j := by omega
          have HP : Hid (∀ c ∈ cols, c.length ≤ 1048576) := by
            intro s hs
            obtain ⟨t, ht, rfl⟩ := List.getElem_of_mem hs
            exact HO.out t ht (by omega)
          go_wp2_with fail
          go_ret
          exact ⟨⟨_, rfl, fun _ => ⟨HQ.out, HP.out⟩⟩, rfl⟩

set_option maxHeartbeats 4000000 in
theorem zzBytes3_any (na : Option Addr) (names : List ByteArray) (nc : Nat) (wa : Option Addr) (cols : List (List Int)) (wc : Nat) (p : Int) (nm : ByteArray) (aa : Option Addr) (an ac : Nat) (w : World) (hnm : nm.size ≤ maxLen) (han : an ≤ maxLen) (hn : names.length ≤ maxLen) (hm : cols.length ≤ maxLen) (hs : ∀ s ∈ names, s.size ≤ maxLen) (hl : ∀ c ∈ cols, c.length ≤ maxLen)
    (hN : NamesAt w na names) (hC : ColsAt w wa cols) :
    Calls Try.prog 5 #[.slice na names.length nc, .slice wa cols.length wc, .int .i64 p, .string nm, .slice aa an ac] w fun e w' => Small names cols e ∧ w' = w := by
  unfold maxLen at *
  have HN : Hid (NamesAt w na names) := hN
  have HC : Hid (ColsAt w wa cols) := hC
  have HS : Hid (∀ s ∈ names, s.size ≤ 9223372036854775807) := hs
  have HL : Hid (∀ c ∈ cols, c.length ≤ 9223372036854775807) := hl
  clear hN hC hs hl
  go_enter Try.func5, Try.ntmps5
  by_cases h1 : 1048576 < (names.length : Int)
  · go_wp2_with fail
    go_ret
    exact ⟨⟨_, rfl, fun h => by cases h⟩, rfl⟩
  go_wp2_with fail
  go_loop [11, 12] (fun z i => ∃ j k : Nat, j ≤ names.length ∧ k ≤ 1048576 ∧ z = .int .i64 k ∧ i = .int .i64 j ∧ ∀ t (h : t < names.length), t < j → names[t].size ≤ 1048576) (fun _ i => names.length - (intOf i).toNat)
  case atStart => exact ⟨0, names.length, Nat.zero_le _, by omega, rfl, rfl, fun _ _ h => absurd h (Nat.not_lt_zero _)⟩
  case round =>
    obtain ⟨j, k, hj, hk, rfl, rfl, hso⟩ := hrel
    have HO : Hid (∀ t (h : t < names.length), t < j → names[t].size ≤ 1048576) := hso
    clear hso
    by_cases hlt : j < names.length
    · have HE : Hid (names[j].size ≤ 1048576 → ∀ t (h : t < names.length), t < j + 1 → names[t].size ≤ 1048576) := by
        intro h t ht hj
        by_cases e : t = j
        · subst e; exact h
        · exact HO.out t ht (by omega)
      have hj1 : (j : Int) < names.length := by omega
      rcases HN.out with h0 | ⟨b, off, rfl, hx⟩
      · rw [h0] at hlt; cases hlt
      have c1 := hx j hlt
      have hsz := HS.out _ (List.getElem_mem hlt)
      clear hx
      generalize names[j] = s at *
      by_cases h2 : 1048576 < (s.size : Int)
      · go_wp2_with fail
        go_ret
        exact ⟨⟨_, rfl, fun h => by cases h⟩, rfl⟩
      by_cases h3 : 1048576 < (k : Int) + s.size
      · go_wp2_with fail
        go_ret
        exact ⟨⟨_, rfl, fun h => by cases h⟩, rfl⟩
      go_wp2_with fail
      go_round
      case rel => exact ⟨j + 1, k + s.size, by omega, by omega, by go_num, by go_num, HE.out (by omega)⟩
      case measure => simp [intOf]; omega
    · have hge : (names.length : Int) ≤ j := by omega
      have HQ : Hid (∀ s ∈ names, s.size ≤ 1048576) := by
        intro s hs
        obtain ⟨t, ht, rfl⟩ := List.getElem_of_mem hs
        exact HO.out t ht (by omega)
      clear HO
      by_cases h4 : 1048576 < (cols.length : Int)
      · go_wp2_with fail
        go_ret
        exact ⟨⟨_, rfl, fun h => by cases h⟩, rfl⟩
      by_cases h5 : 1048576 < (k : Int) + cols.length
      · go_wp2_with fail
        go_ret
        exact ⟨⟨_, rfl, fun h => by cases h⟩, rfl⟩
      go_wp2_with fail
      go_loop [11, 13] (fun z i => ∃ j k : Nat, j ≤ cols.length ∧ k ≤ 1048576 ∧ z = .int .i64 k ∧ i = .int .i64 j ∧ ∀ t (h : t < cols.length), t < j → cols[t].length ≤ 1048576) (fun _ i => cols.length - (intOf i).toNat)
      case atStart => exact ⟨0, k + cols.length, Nat.zero_le _, by omega, by go_num, rfl, fun _ _ h => absurd h (Nat.not_lt_zero _)⟩
      case round =>
        obtain ⟨j, k, hj, hk, rfl, rfl, hso⟩ := hrel
        have HO : Hid (∀ t (h : t < cols.length), t < j → cols[t].length ≤ 1048576) := hso
        clear hso
        by_cases hlt : j < cols.length
        · have HE : Hid (cols[j].length ≤ 1048576 → ∀ t (h : t < cols.length), t < j + 1 → cols[t].length ≤ 1048576) := by
            intro h t ht hj
            by_cases e : t = j
            · subst e; exact h
            · exact HO.out t ht (by omega)
          have hj1 : (j : Int) < cols.length := by omega
          rcases HC.out with h0 | ⟨b, off, rfl, hx⟩
          · rw [h0] at hlt; cases hlt
          obtain ⟨ra, rc, c1, _⟩ := hx j hlt
          have hsz := HL.out _ (List.getElem_mem hlt)
          clear hx
          generalize cols[j].length = s at *
          by_cases h2 : 1048576 < (s : Int)
          · go_wp2_with fail
            go_ret
            exact ⟨⟨_, rfl, fun h => by cases h⟩, rfl⟩
          by_cases h3 : 1048576 < (k : Int) + s
          · go_wp2_with fail
            go_ret
            exact ⟨⟨_, rfl, fun h => by cases h⟩, rfl⟩
          go_wp2_with fail
          go_round
          case rel => exact ⟨j + 1, k + s, by omega, by omega, by go_num, by go_num, HE.out (by omega)⟩
          case measure => simp [intOf]; omega
        · have hge : (cols.length : Int) ≤ j := by omega
          have HP : Hid (∀ c ∈ cols, c.length ≤ 1048576) := by
            intro s hs
            obtain ⟨t, ht, rfl⟩ := List.getElem_of_mem hs
            exact HO.out t ht (by omega)
          by_cases g1 : 1048576 < (nm.size : Int)
          · go_wp2_with fail
            go_ret
            exact ⟨⟨_, rfl, fun h => by cases h⟩, rfl⟩
          by_cases g2 : 1048576 < (k : Int) + nm.size
          · go_wp2_with fail
            go_ret
            exact ⟨⟨_, rfl, fun h => by cases h⟩, rfl⟩
          by_cases g3 : 1048576 < (an : Int)
          · go_wp2_with fail
            go_ret
            exact ⟨⟨_, rfl, fun h => by cases h⟩, rfl⟩
          by_cases g4 : 1048576 < (k : Int) + nm.size + an
          · go_wp2_with fail
            go_ret
            exact ⟨⟨_, rfl, fun h => by cases h⟩, rfl⟩
          go_wp2_with fail
          go_ret
          exact ⟨⟨_, rfl, fun _ => ⟨HQ.out, HP.out⟩⟩, rfl⟩

end Go.Proofs.Qxb6615116a

/-
  Weights.accounts (seat b6615116a).
-/
import Derived.Test.Qxb6615116aSorted
namespace Go.Proofs.Qxb6615116a
open Go.RowKit Go.Shelf Go.Lib Go.Sort
set_option linter.unusedVariables false

theorem size39 : (Try.prog.info? 39).map (·.size) = some 7 := by kernel_rfl
noncomputable def i3 : TypeInfo := (Try.prog.info? 3).get (by kernel_rfl)

theorem own_slice {w : World} {b : Nat} {e : TypeId} {sz n : Nat} {v : Value} {xs : List Value} (h : w.ownsRow b e sz v n xs) : ∃ a c, v = .slice a n c := by
  rcases h.2 with ⟨h1, h2⟩ | ⟨g, cap, cur, h1, _⟩
  · exact ⟨none, 0, by rw [h1, h2]⟩
  · exact ⟨_, _, h1⟩
theorem keep_at {w1 w' : World} {p : Addr} {row : Option Nat} (hg : w1.grownBy w' row) (hne : some p.block ≠ row) (hlt : p.block < w1.heap.size) : w'.cell? p = w1.cell? p ∧ w'.frozen? p = w1.frozen? p :=
  ⟨World.cell?_of_block (hg.block _ hlt hne), World.frozen?_of_block (hg.block _ hlt hne)⟩
theorem picked_le (cols : List (List Int)) (n : Nat) : (picked cols n).length ≤ n := by
  unfold picked
  have := List.length_filter_le (wgh cols) (List.range n)
  simpa using this

set_option maxRecDepth 100000 in
set_option maxHeartbeats 4000000 in
theorem accounts_any (na : Option Addr) (names : List ByteArray) (nc : Nat) (wa : Option Addr) (cols : List (List Int)) (wc : Nat) (w : World) (hn : names.length ≤ 1048577) (hm : cols.length ≤ 1048576) (hl : ∀ c ∈ cols, c.length = names.length) (hL : ∀ c ∈ cols, c.length ≤ 1048576)
    (hN : NamesAt w na names) (hW : BigCols w wa cols) :
    Calls Try.prog 13 #[.agg (wts (.slice na names.length nc) (.slice wa cols.length wc))] w fun e w' => (∃ a c ds, e = .returned (.slice a (List.length ds) c) ∧ ds.Perm (picked cols names.length) ∧ Srt names ds ∧ NumsAt w' a ds) ∧ RowKit.Below w.heap.size w w' := by
  have hn1 : (names.length : Int) ≤ 1048577 := by omega
  have HN : Hid (NamesAt w na names) := hN
  have HW : Hid (BigCols w wa cols) := hW
  have HL : Hid (∀ c ∈ cols, c.length = names.length) := hl
  have HL2 : Hid (∀ c ∈ cols, c.length ≤ 1048576) := hL
  have hB0 : Below w.heap.size w ((w.alloc (.cells (wts (.slice na names.length nc) (.slice wa cols.length wc)) 39)).alloc (.cells #[.slice none 0 0] 26)) := ((Below.refl _ _).alloc (Nat.le_refl _) _).alloc (by simp) _
  have hbx : ((w.alloc (.cells (wts (.slice na names.length nc) (.slice wa cols.length wc)) 39)).alloc (.cells #[.slice none 0 0] 26)).rangeAt w.heap.size 0 (wts (.slice na names.length nc) (.slice wa cols.length wc)).toList := by
    intro j v hj
    rw [World.cell?_alloc_lt _ _ _ (by simp), Nat.zero_add, World.cell?_alloc_new]
    simpa using hj
  have hp3 : ((w.alloc (.cells (wts (.slice na names.length nc) (.slice wa cols.length wc)) 39)).alloc (.cells #[.slice none 0 0] 26)).cell? ⟨w.heap.size + 1, 0, none⟩ = some (.slice none 0 0) := by
    have : w.heap.size + 1 = (w.alloc (.cells (wts (.slice na names.length nc) (.slice wa cols.length wc)) 39)).heap.size := by simp
    rw [this, World.cell?_alloc_new]; rfl
  have hf3 : ((w.alloc (.cells (wts (.slice na names.length nc) (.slice wa cols.length wc)) 39)).alloc (.cells #[.slice none 0 0] 26)).frozen? ⟨w.heap.size + 1, 0, none⟩ = false := by
    have : w.heap.size + 1 = (w.alloc (.cells (wts (.slice na names.length nc) (.slice wa cols.length wc)) 39)).heap.size := by simp
    rw [this, World.frozen?_alloc_new]
  have hz0 : ((w.alloc (.cells (wts (.slice na names.length nc) (.slice wa cols.length wc)) 39)).alloc (.cells #[.slice none 0 0] 26)).heap.size = w.heap.size + 2 := by simp
  clear hN hW hl hL
  unfold wts at *
  go_enter Try.func13, Try.ntmps13
  go_wp2_with fail
  generalize (w.alloc (.cells #[.slice na names.length nc, .slice none 0 0, .slice wa cols.length wc, .int .i64 0, .int .i64 0, .bool false, .nilFunc] 39)).alloc (.cells #[.slice none 0 0] 26) = W0 at *
  have HBX : Hid (W0.rangeAt w.heap.size 0 #[Value.slice na names.length nc, .slice none 0 0, .slice wa cols.length wc, .int .i64 0, .int .i64 0, .bool false, .nilFunc].toList) := hbx
  clear hbx
  go_loopw [8] (fun i wr => ∃ j : Nat, j ≤ names.length ∧ i = .int .i64 j ∧ Below w.heap.size w wr ∧ w.heap.size + 2 ≤ wr.heap.size ∧ wr.rangeAt w.heap.size 0 #[Value.slice na names.length nc, .slice none 0 0, .slice wa cols.length wc, .int .i64 0, .int .i64 0, .bool false, .nilFunc].toList ∧ wr.frozen? ⟨w.heap.size + 1, 0, none⟩ = false ∧
    ∃ v, wr.cell? ⟨w.heap.size + 1, 0, none⟩ = some v ∧ wr.ownsRow (w.heap.size + 2) 3 1 v (picked cols j).length (cellsOf (picked cols j))) (fun i _ => names.length - (intOf i).toNat)
  case atStart => exact ⟨0, Nat.zero_le _, rfl, hB0, by omega, HBX.out, hf3, _, hp3, World.ownsRow_nil _ _ _ _⟩
  case round =>
    obtain ⟨j, hj, rfl, hbl, hz, hbx, hfz, v, hc3, hown⟩ := hrel
    have HBX2 : Hid (wr.rangeAt w.heap.size 0 #[Value.slice na names.length nc, .slice none 0 0, .slice wa cols.length wc, .int .i64 0, .int .i64 0, .bool false, .nilFunc].toList) := hbx
    have HO : Hid (wr.ownsRow (w.heap.size + 2) 3 1 v (picked cols j).length (cellsOf (picked cols j))) := hown
    clear HBX hp3 hf3 hz0 hB0 hbx hown
    by_cases hlt : j < names.length
    · have hj1 : (j : Int) < names.length := by omega
      have hwg := weighs_any na names.length nc wa cols wc j wr hm HL2.out (fun c hc => by rw [HL.out c hc]; exact hlt) (HW.out.below hbl)
      have HWG : Hid (Calls Try.prog 15 #[.agg #[.slice na names.length nc, .slice none 0 0, .slice wa cols.length wc, .int .i64 0, .int .i64 0, .bool false, .nilFunc], .int .i64 j] wr fun e w' => e = .returned (.bool (wgh cols j)) ∧ Below wr.heap.size wr w') := hwg
      clear hwg
      go_wp2_with (refine wpList_load_mid rfl 39 _ rfl w.heap.size 0 (by rfl) _ _ HBX2.out Try.underlying39 rfl size39 ?_)
      refine HWG.out.mono ?_
      rintro e w1 ⟨rfl, hb1⟩
      have d3 : w1.cell? ⟨w.heap.size + 1, 0, none⟩ = some v := by rw [hb1.cell (show w.heap.size + 1 < wr.heap.size by omega)]; exact hc3
      have g3 : w1.frozen? ⟨w.heap.size + 1, 0, none⟩ = false := by rw [hb1.frozen (show w.heap.size + 1 < wr.heap.size by omega)]; exact hfz
      have hB1 := hbl.trans (hb1.mono hbl.size)
      have hz1 := Nat.le_trans hz hb1.size
      have hown1 : w1.ownsRow (w.heap.size + 2) 3 1 v (picked cols j).length (cellsOf (picked cols j)) := HO.out.kept (grown_below hb1) (by cases v.ownBlock <;> simp)
      have HO1 : Hid (w1.ownsRow (w.heap.size + 2) 3 1 v (picked cols j).length (cellsOf (picked cols j))) := hown1
      have HBX3 : Hid (w1.rangeAt w.heap.size 0 #[Value.slice na names.length nc, .slice none 0 0, .slice wa cols.length wc, .int .i64 0, .int .i64 0, .bool false, .nilFunc].toList) := fun k u hu => by rw [hb1.cell (show w.heap.size < wr.heap.size by omega)]; exact HBX2.out k u hu
      have HPK : Hid (picked cols (j + 1) = picked cols j ++ (if wgh cols j then [j] else [])) := picked_succ cols j
      obtain ⟨av, cv, rfl⟩ := own_slice hown1
      clear hown1
      cases hwj : wgh cols j
      · go_wp2_with fail
        go_roundw
        case rel =>
          have e : picked cols (j + 1) = picked cols j := by rw [HPK.out, hwj]; simp
          exact ⟨j + 1, by omega, by go_num, hB1, hz1, HBX3.out, g3, _, d3, by rw [e]; exact HO1.out⟩
        case measure => simp [intOf]; omega
      · have e : picked cols (j + 1) = picked cols j ++ [j] := by rw [HPK.out, hwj]; rfl
        have HE : Hid (picked cols (j + 1) = picked cols j ++ [j]) := e
        clear e
        have hpl := picked_le cols j
        go_wp2_with (
          refine wpList_append_own _ rfl _ _ 26 rfl (w.heap.size + 2) 3 i3 (.int .i64 0) 1 8 Try.underlying26 (by kernel_rfl) (by kernel_rfl) (by kernel_rfl) (by kernel_rfl) rfl (by omega) _ _ _ rfl (HO1.out.alloc _) ⟨w1.heap.size, 0, none⟩ 1 1 [.int .i64 j] rfl rfl (by
            intro t u hu
            cases t with
            | zero => simp at hu; subst hu; rw [Addr.add_mid, World.cell?_alloc_new]; rfl
            | succ t => simp at hu) (by simp [Value.oneCell']) (by unfold maxLen; omega) (by omega) (by simp; omega) ?_
          rintro v' w' ho' hg' _
          have hne : ∀ k, k < w.heap.size + 2 → some k ≠ (Value.slice av (picked cols j).length cv).ownBlock := fun k hk he => by have := (HO1.out.lt k he.symm).1; omega
          have hsz : w1.heap.size + 1 = (w1.alloc (.cells #[.int .i64 j] 3)).heap.size := by simp
          obtain ⟨k3, kf⟩ := keep_at (p := ⟨w.heap.size + 1, 0, none⟩) hg' (hne (w.heap.size + 1) (by omega)) (show w.heap.size + 1 < (w1.alloc (.cells #[.int .i64 j] 3)).heap.size by rw [← hsz]; omega)
          rw [World.cell?_alloc_lt _ _ _ (show w.heap.size + 1 < w1.heap.size by omega), d3] at k3
          have kf3 : w'.frozen? ⟨w.heap.size + 1, 0, none⟩ = false := by rw [kf]; exact (World.frozen?_of_block (Below.heap_alloc _ _ _ (show w.heap.size + 1 < w1.heap.size by omega))).trans g3
          have hB2 : Below w.heap.size w w' := below_grown (hB1.alloc hB1.size _) hg' (by rw [← hsz]; omega) (fun k hk => by have := (HO1.out.lt k hk).1; omega)
          have HBX4 : Hid (w'.rangeAt w.heap.size 0 #[Value.slice na names.length nc, .slice none 0 0, .slice wa cols.length wc, .int .i64 0, .int .i64 0, .bool false, .nilFunc].toList) := fun k u hu => by
            rw [(keep_at (p := ⟨w.heap.size, 0 + k, none⟩) hg' (hne w.heap.size (by omega)) (show w.heap.size < (w1.alloc (.cells #[.int .i64 j] 3)).heap.size by rw [← hsz]; omega)).1, World.cell?_alloc_lt _ _ _ (show w.heap.size < w1.heap.size by omega)]
            exact HBX3.out k u hu
          have hz2 : w.heap.size + 2 ≤ w'.heap.size := by have := hg'.size; rw [← hsz] at this; omega
          have HO2 : Hid (w'.ownsRow (w.heap.size + 2) 3 1 v' ((picked cols j).length + 1) (cellsOf (picked cols j) ++ [.int .i64 j])) := ho'
          obtain ⟨av', cv', rfl⟩ := own_slice ho'
          clear ho' kf hne hsz)
        go_roundw
        case rel =>
          refine ⟨j + 1, by omega, by go_num, hB2.setCell (p := ⟨w.heap.size + 1, 0, none⟩) (by simp) _, Nat.le_trans hz2 (by simp [World.setCell]), ?_, by rw [World.frozen?_setCell]; exact kf3, _, World.cell?_setCell_same _ _ _ k3, ?_⟩
          · intro k u hu
            exact (World.cell?_setCell_other _ _ _ _ (by simp)).trans (HBX4.out k u hu)
          · rw [HE.out, List.length_append, show cellsOf (picked cols j ++ [j]) = cellsOf (picked cols j) ++ [.int .i64 j] by simp [cellsOf]]
            exact HO2.out.kept (grown_set _ _ _) (by
              right
              intro he
              have := (HO2.out.lt _ he).1
              simp at this)
        case measure => simp [intOf]; omega
    · have hge : (names.length : Int) ≤ j := by omega
      obtain rfl : j = names.length := by omega
      have hbx0 : wr.cell? ⟨w.heap.size, 0, none⟩ = some (.slice na names.length nc) := HBX2.out 0 _ rfl
      have hpk : ∀ x ∈ picked cols names.length, x < names.length := fun x hx => by
        have := (List.mem_filter.1 hx).1
        exact List.mem_range.1 this
      have hnb : ∀ a, na = some a → names ≠ [] → a.block < w.heap.size + 2 := by
        intro a ha hne
        rcases HN.out with h | ⟨b, off, rfl, h⟩
        · exact absurd h hne
        · cases ha
          have := World.block_lt_of_cell? _ _ (h 0 (List.length_pos_iff.2 hne))
          exact Nat.lt_of_lt_of_le this (Nat.le_add_right _ 2)
      obtain ⟨av, cv, rfl, hS⟩ := sorted_call w.heap.size (w.heap.size + 1) (w.heap.size + 2) na nc names v (picked cols names.length) wr hpk hn (picked_le cols names.length) HO.out hbx0 hc3 (HN.out.below hbl) (by omega) (by omega) hnb hz
      have HS : Hid (Calls Try.prog 16 #[.iface 26 (.slice av (picked cols names.length).length cv), .func (.func 17) #[] #[.pointer (some ⟨w.heap.size, 0, none⟩), .pointer (some ⟨w.heap.size + 1, 0, none⟩)]] wr fun e w' => e = .returned (.tuple #[]) ∧ RowKit.Below (w.heap.size + 2) wr w' ∧ ∃ ds : List Nat, ds.Perm (picked cols names.length) ∧ Srt names ds ∧ NumsAt w' av ds) := hS
      clear hS hnb hpk hbx0
      go_wp2_with fail
      refine HS.out.mono ?_
      rintro e w' ⟨rfl, hb2, ds, hp, hs, ha⟩
      have d3 : w'.cell? ⟨w.heap.size + 1, 0, none⟩ = some (.slice av (picked cols names.length).length cv) := by rw [hb2.cell (show w.heap.size + 1 < w.heap.size + 2 by omega)]; exact hc3
      have HD : Hid (ds.Perm (picked cols names.length) ∧ Srt names ds ∧ NumsAt w' av ds) := ⟨hp, hs, ha⟩
      have hlen := hp.length_eq
      clear hp hs ha
      go_wp2_with fail
      go_ret
      exact ⟨⟨av, cv, ds, by rw [hlen]; rfl, HD.out⟩, hbl.trans (hb2.mono (by omega))⟩

end Go.Proofs.Qxb6615116a

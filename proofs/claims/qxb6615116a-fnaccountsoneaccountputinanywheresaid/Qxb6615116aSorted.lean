/-
  What sort.Slice leaves at 'accounts', in plain words (seat b6615116a).
-/
import Derived.Test.Qxb6615116aSort
namespace Go.Proofs.Qxb6615116a
open Go.RowKit Go.Shelf Go.Lib Go.Sort
set_option linter.unusedVariables false

theorem below_put {α : Type} [Inhabited α] (enc : α → Value) (B : Nat) (w : World) (n blk off : Nat) (d : Array α) (os : Array Obj) (hB : B ≤ blk) (hs : B ≤ w.heap.size) : RowKit.Below B w (grow (putRow enc (Sort.ahead w n) blk off d) os) := by
  have hz : (putRow enc (Sort.ahead w n) blk off d).heap.size = w.heap.size := by simp [putRow, mapBlock, Sort.ahead]
  refine ⟨rfl, rfl, rfl, by rw [size_grow, hz]; omega, fun k hk => ?_⟩
  rw [heap_grow_old _ _ (by rw [hz]; omega)]
  show (w.heap.modify blk _)[k]? = _
  rw [Array.getElem?_modify, if_neg (by omega)]
theorem below_grow (B : Nat) (w : World) (os : Array Obj) (hs : B ≤ w.heap.size) : RowKit.Below B w (grow w os) :=
  ⟨rfl, rfl, rfl, by rw [size_grow]; omega, fun k hk => heap_grow_old _ _ (by omega)⟩

/-- In name order. -/
def Srt (names : List ByteArray) (ds : List Nat) : Prop := ∀ i j (hj : j < ds.length) (h : i < j), ltN names ds[j] (ds[i]'(by omega)) = false
def NumsAt (w : World) (a : Option Addr) (ds : List Nat) : Prop := ds = [] ∨ ∃ b, a = some ⟨b, 0, none⟩ ∧ ∀ i (h : i < ds.length), w.cell? ⟨b, i, none⟩ = some (.int .i64 (ds[i] : Int))


/-- sort.Slice at 'accounts'. -/
theorem sorted_call (box p3 B : Nat) (na : Option Addr) (nc : Nat) (names : List ByteArray) (v : Value) (ps : List Nat) (w : World) (hps : ∀ x ∈ ps, x < names.length) (hl : names.length ≤ 1048577) (hpl : ps.length ≤ names.length)
    (hown : w.ownsRow B 3 1 v ps.length (cellsOf ps)) (hbox : w.cell? ⟨box, 0, none⟩ = some (.slice na names.length nc)) (hp3 : w.cell? ⟨p3, 0, none⟩ = some v) (hN : NamesAt w na names) (hb : box < B) (hb3 : p3 < B) (hna : ∀ a, na = some a → names ≠ [] → a.block < B) (hB : B ≤ w.heap.size) :
    ∃ a c, v = .slice a ps.length c ∧ Calls Try.prog 16 #[.iface 26 v, .func (.func 17) #[] #[.pointer (some ⟨box, 0, none⟩), .pointer (some ⟨p3, 0, none⟩)]] w fun e w' =>
      e = .returned (.tuple #[]) ∧ RowKit.Below B w w' ∧ ∃ ds : List Nat, ds.Perm ps ∧ Srt names ds ∧ NumsAt w' a ds := by
  by_cases h1 : ps.length ≤ 1
  · rcases hown.2 with ⟨rfl, h2⟩ | ⟨g, cap, cur, rfl, hg, hh, _, _, hsz, htk⟩
    · have hp : ps = [] := List.length_eq_zero_iff.1 h2
      subst hp
      refine ⟨none, 0, rfl, (sort_tiny none 0 0 (by omega) _ w).mono ?_⟩
      rintro e w' ⟨rfl, os, rfl⟩
      exact ⟨rfl, below_grow B w os hB, [], .refl _, fun i j hj => absurd hj (Nat.not_lt_zero _), .inl rfl⟩
    · refine ⟨_, _, rfl, (sort_tiny _ _ cap h1 _ w).mono ?_⟩
      rintro e w' ⟨rfl, os, rfl⟩
      refine ⟨rfl, below_grow B w os hB, ps, .refl _, fun i j hj h => by omega, .inr ⟨g, rfl, fun i hi => ?_⟩⟩
      have hlt := (hown.lt g rfl).2
      rw [cell?_grow _ _ _ hlt]
      have := hown.cells (g := g) rfl i (.int .i64 (ps[i] : Int)) (by simp [cellsOf, hi])
      rw [Addr.add_mid] at this
      simpa using this
  · rcases hown.2 with ⟨rfl, h2⟩ | ⟨g, cap, cur, rfl, hg, hh, _, _, hsz, htk⟩
    · omega
    obtain ⟨k, hk⟩ : ∃ k, names.length = k + 1 := ⟨names.length - 1, by omega⟩
    have hlt := (hown.lt g rfl).2
    obtain ⟨d, hd⟩ : ∃ d : Array (Fin (k + 1)), d = (ps.map (Fin.ofNat (k + 1))).toArray := ⟨_, rfl⟩
    have hds : d.size = ps.length := by rw [hd]; simp
    have hval : d.toList.map Fin.val = ps := by
      rw [hd, List.map_map]
      refine (List.map_congr_left (g := id) fun x hx => ?_).trans (List.map_id ps)
      show (Fin.ofNat (k + 1) x).val = x
      exact Nat.mod_eq_of_lt (by have := hps x hx; omega)
    have hH : Holds encF w g 0 d := by
      intro j hj
      have hjp : j < ps.length := by omega
      refine ⟨?_, ?_⟩
      · have h1 := hown.cells (g := g) rfl j (.int .i64 (ps[j] : Int)) (by simp [cellsOf, hjp])
        rw [Addr.add_mid] at h1
        rw [h1]
        have e : ((d[j]! : Fin (k + 1)) : Nat) = ps[j] := by
          rw [getElem!_pos d j hj]
          have := List.getElem_of_eq hval (i := j) (by simp; omega)
          simpa using this
        show _ = some (Value.int .i64 ((d[j]! : Fin (k + 1)) : Nat))
        rw [e]
      · unfold World.frozen?
        simp [hh]
    refine ⟨_, _, rfl, ?_⟩
    have hS := sort_some box p3 g cap na nc names k hk d (by omega) (by omega) w hbox (by rw [hds]; exact hp3) hN hl hH hlt (by omega) (by omega) (fun a ha => by have := hna a ha (by intro h; rw [h] at hk; simp at hk); omega)
    rw [hds] at hS
    refine hS.mono ?_
    rintro e w' ⟨rfl, d', n, os, hperm, hsort, rfl⟩
    have hd's : d'.size = d.size := hperm.1
    have hex : ∀ x : Array (Fin (k + 1)), x.size = ps.length → (x.extract 0 ps.length).toList = x.toList := by intro x hx; rw [← hx]; simp
    refine ⟨rfl, below_put encF B w n g 0 d' os hg hB, d'.toList.map Fin.val, ?_, ?_, .inr ⟨g, rfl, fun i hi => ?_⟩⟩
    · have h2 := hperm.2.2
      rw [hex d' (by omega), hex d hds] at h2
      have := h2.map Fin.val
      rwa [hval] at this
    · intro i j hj hij
      have hj' : j < d'.size := by simpa using hj
      have := hsort i j (Nat.zero_le _) hij (by omega)
      rw [getElem!_pos d' j hj', getElem!_pos d' i (by omega)] at this
      simpa [ltF] using this
    · have hi' : i < d'.size := by simpa using hi
      rw [cell?_grow _ _ _ (by show g < (putRow encF (Sort.ahead w n) g 0 d').heap.size; simpa [putRow, mapBlock, Sort.ahead] using hlt)]
      have := cell?_putRow encF (Sort.ahead w n) g 0 d d' (holds_ahead _ _ _ _ _ _ hH) hd's i hi'
      rw [Nat.zero_add] at this
      rw [this, getElem!_pos d' i hi']
      simp

end Go.Proofs.Qxb6615116a

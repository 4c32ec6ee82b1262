/-
  Statements 14, 15 of FnAccountsOneAccountPutInAnywhere: weights2 (seat b6615116a).
-/
import Derived.Test.Qxb6615116aRest
import Derived.Test.Qxb6615116aT16
namespace Go.Proofs.Qxb6615116a
open Go.RowKit
set_option linter.unusedVariables false
attribute [local go_sem] run_neq22

theorem rows_step {w : World} {blk j rb n : Nat} {cols2 : List (List Int)} {col2 : List Int} (h : RowsIn w blk cols2 j) (hj : j < cols2.length) (hc : cols2[j]? = some col2) (hn : col2.length = n) (ht : w.there blk 0 cols2.length) (hp : Part w rb (col2.map (Value.int .i64)) n) (h1 : blk < rb) (h2 : rb < w.heap.size) :
    RowsIn (w.setCell ⟨blk, j, none⟩ (.slice (some ⟨rb, 0, none⟩) n n)) blk cols2 (j + 1) := by
  have e : cols2[j] = col2 := by
    rw [List.getElem?_eq_getElem hj] at hc
    exact Option.some.inj hc
  subst hn
  have := RowsIn.step (rb := rb) h hj ht (by rw [e]; exact hp.ints) h1 h2
  rwa [e] at this

set_option maxRecDepth 100000 in
set_option maxHeartbeats 16000000 in
theorem t14 (w0 w : World) (hB0 : Below w0.heap.size w0 w) (nb : Option Addr) (names : List ByteArray) (nd q : Nat) (nmv : ByteArray) (aa : Option Addr) (add : List Int) (ac : Nat) (wa : Option Addr) (cols : List (List Int)) (wcap b2 : Nat)
    (hn : names.length ≤ 4096) (hq : q ≤ names.length) (hm : cols.length ≤ 65536) (hal : add.length ≤ 65536) (hH : Held names cols q nmv add.length) (hF : ∀ c ∈ cols, Fit c) (hFA : Fit add) (hw0 : wa = none → cols = [])
    (hN : NamesAt w nb names) (hN2 : NamesAt w (some ⟨b2, 0, none⟩) (ins q nmv names)) (hC : ColsAt w wa cols) (hA : Ints w aa add)
    {u5 u6 u7 u8 u9 u10 u11 u12 u13 u14 u17 u18 u19 u20 u21 u22 u23 u24 u25 u26 u27 u28 u29 u30 u31 u32 u33 u34 u35 u36 u37 u38 u39 u40 u41 u42 u43 u44 u45 u46 u47 u48 u49 u50 u51 u52 u53 u54 u55 u56 u57 u58 u59 u60 u61 u62 u63 u64 u65 u66 u67 u68 u69 u70 u71 u72 u73 u74 u75 u76 u77 u78 u79 u80 u81 u82 u83 u84 u85 u86 u87 u88 u89 u90 u91 u92 u93 u94 u95 u96 u97 u98 u99 u100 u101 u102 u103 u104 u105 u106 u107 u108 u109 u110 u111 u112 u113 u114 u115 u116 u117 u118 u119 u120 u121 u122 u123 u124 u125 u126 u127 u128 u129 u130 u131 u132 u133 u134 u135 u136 u137 u138 u139 u140 u141 u142 u143 u144 u145 u146 u147 u148 u149 u150 u151 u152 u153 u154 u155 u156 u157 u158 u159 u160 u161 u162 u163 u164 u165 u166 u167 u168 u169 u170 u171 u172 u173 u174 u175 u176 u177 u178 u179 u180 u181 u182 u183 u184 u185 u186 u187 u188 u189 u190 u191 u192 u193 u194 u195 u196 u197 u198 u199 u200 u201 u202 u203 u204 u205 u206 u207 u208 u209 u210 u211 u212 u213 u214 u215 u216 u217 u218 u219 u220 u221 u222 u223 u224 u225 u226 u227 u228 u229 u230 u231 u232 u233 u234 u235 u236 u237 u238 u239 u240 u241 u242 u243 u244 u245 u246 u247 u248 u249 u250 u251 u252 u253 u254 u255 u256 u257 u258 u259 u260 u261 u262 u263 u264 u265 u266 u267 u268 u269 u270 u271 u272 u273 u274 u275 u276 u277 u278 u279 u280 u281 u282 u283 u284 u285 u286 u287 u288 u289 u290 u291 u292 u293 u294 u295 u296 u297 u298 u299 u300 u301 u302 u303 u304 u305 u306 u307 u308 u309 u310 u311 u312 u313 u314 u315 u316 u317 u318 u319 u320 u321 u322 u323 : Value} :
    (rest 14).wp Try.prog (bodyPost Try.prog Try.f3 fun e w' => e = .returned (.bool true) ∧ Below w0.heap.size w0 w') ⟨#[.slice nb names.length nd, .slice wa cols.length wcap, .int .i64 q, .string nmv, .slice aa add.length ac, u5, u6, u7, u8, u9, u10, u11, u12, u13, u14, .int .i64 names.length, .slice (some ⟨b2, 0, none⟩) (names.length + 1) (names.length + 1), u17, u18, u19, u20, u21, u22, u23, u24, u25, u26, u27, u28, u29, u30, u31, u32, u33, u34, u35, u36, u37, u38, u39, u40, u41, u42, u43, u44, u45, u46, u47, u48, u49, u50, u51, u52, u53, u54, u55, u56, u57, u58, u59, u60, u61, u62, u63, u64, u65, u66, u67, u68, u69, u70, u71, u72, u73, u74, u75, u76, u77, u78, u79, u80, u81, u82, u83, u84, u85, u86, u87, u88, u89, u90, u91, u92, u93, u94, u95, u96, u97, u98, u99, u100, u101, u102, u103, u104, u105, u106, u107, u108, u109, u110, u111, u112, u113, u114, u115, u116, u117, u118, u119, u120, u121, u122, u123, u124, u125, u126, u127, u128, u129, u130, u131, u132, u133, u134, u135, u136, u137, u138, u139, u140, u141, u142, u143, u144, u145, u146, u147, u148, u149, u150, u151, u152, u153, u154, u155, u156, u157, u158, u159, u160, u161, u162, u163, u164, u165, u166, u167, u168, u169, u170, u171, u172, u173, u174, u175, u176, u177, u178, u179, u180, u181, u182, u183, u184, u185, u186, u187, u188, u189, u190, u191, u192, u193, u194, u195, u196, u197, u198, u199, u200, u201, u202, u203, u204, u205, u206, u207, u208, u209, u210, u211, u212, u213, u214, u215, u216, u217, u218, u219, u220, u221, u222, u223, u224, u225, u226, u227, u228, u229, u230, u231, u232, u233, u234, u235, u236, u237, u238, u239, u240, u241, u242, u243, u244, u245, u246, u247, u248, u249, u250, u251, u252, u253, u254, u255, u256, u257, u258, u259, u260, u261, u262, u263, u264, u265, u266, u267, u268, u269, u270, u271, u272, u273, u274, u275, u276, u277, u278, u279, u280, u281, u282, u283, u284, u285, u286, u287, u288, u289, u290, u291, u292, u293, u294, u295, u296, u297, u298, u299, u300, u301, u302, u303, u304, u305, u306, u307, u308, u309, u310, u311, u312, u313, u314, u315, u316, u317, u318, u319, u320, u321, u322, u323], []⟩ w := by
  have HN : Hid (NamesAt w nb names) := hN
  have HN2 : Hid (NamesAt w (some ⟨b2, 0, none⟩) (ins q nmv names)) := hN2
  have HC : Hid (ColsAt w wa cols) := hC
  have HA : Hid (Ints w aa add) := hA
  have HH : Hid (Held names cols q nmv add.length) := hH
  have HF : Hid (∀ c ∈ cols, Fit c) := hF
  have HFA : Hid (Fit add) := hFA
  have HW0 : Hid (wa = none → cols = []) := hw0
  have E2 : Hid ((putCols q cols add).length = cols.length) := putCols_length q cols add hH.adds
  have hmk3 := fun w => run_make23 cols.length (by omega) w
  have hmk4 := fun w => run_make24 (names.length + 1) (by omega) w
  simp only [Int.natCast_add, Int.cast_ofNat_Int] at hmk4
  have hn1 : (names.length : Int) ≤ 4096 := by omega
  have hm1 : (cols.length : Int) ≤ 65536 := by omega
  have hq1 : (q : Int) ≤ names.length := by omega
  clear hN hN2 hC hA hH hF hFA hw0
  refine rest_go (by kernel_rfl) fun K hK => ?_
  conv => arg 2; whnf
  go_wp2_with fail
  have hBv : Below w.heap.size w (w.alloc (.cells (madeCells #[.slice none 0 0] cols.length) 24)) := (Below.refl _ _).alloc (Nat.le_refl _) _
  have hzv : w.heap.size < (w.alloc (.cells (madeCells #[.slice none 0 0] cols.length) 24)).heap.size := by simp
  have htv := there_made w #[.slice none 0 0] cols.length 24
  generalize w.alloc (.cells (madeCells #[.slice none 0 0] cols.length) 24) = V at *
  have HTV : Hid (V.there w.heap.size 0 cols.length) := htv
  clear htv hmk3
  refine rest_go (by kernel_rfl) fun K2 hK2 => ?_
  conv => arg 2; whnf
  go_wp2_with fail
  go_loopw [20] (fun v wr => ∃ j : Nat, j ≤ cols.length ∧ v = .int .i64 j ∧ Below w.heap.size w wr ∧ w.heap.size < wr.heap.size ∧ wr.there w.heap.size 0 cols.length ∧ RowsIn wr w.heap.size (putCols q cols add) j) (fun v _ => cols.length - (intOf v).toNat)
  case atStart => exact ⟨0, Nat.zero_le _, rfl, hBv, hzv, HTV.out, fun _ _ h => absurd h (Nat.not_lt_zero _)⟩
  case round =>
  rename World => X0
  obtain ⟨j, hj, rfl, hbl, hz, ht, hrw⟩ := hrel
  have HT : Hid (X0.there w.heap.size 0 cols.length) := ht
  have HR : Hid (RowsIn X0 w.heap.size (putCols q cols add) j) := hrw
  clear ht hrw hBv hzv HTV
  by_cases hlt : j < cols.length
  rotate_left
  · have hge : (cols.length : Int) ≤ j := by omega
    have HR2 : Hid (RowsIn X0 w.heap.size (putCols q cols add) (putCols q cols add).length) := fun c hc _ => HR.out c hc (by have := E2.out; omega)
    go_wp2_with fail
    exact t16 w0 X0 (hB0.trans (hbl.mono hB0.size)) nb names nd q nmv aa add ac wa cols wcap b2 w.heap.size hn hq hm hal HH.out HF.out HFA.out HW0.out (HN.out.below hbl) (HN2.out.below hbl) (HC.out.below hbl) HR2.out.cols (HA.out.below hbl)
  have hj1 : (j : Int) < cols.length := by omega
  have hja : j < add.length := by have := HH.out.adds; omega
  have hja1 : (j : Int) < add.length := by omega
  have hcc := HC.out
  rcases hcc with h0 | ⟨b, off, rfl, hcc⟩
  · rw [h0] at hlt; cases hlt
  obtain ⟨ra, rc, k1, hI⟩ := hcc j hlt
  have hlen : cols[j].length = names.length := HH.out.lens _ (List.getElem_mem hlt)
  have hac := HA.out
  rcases hac with h0 | ⟨ab, ao, rfl, hac⟩
  · rw [h0] at hja; cases hja
  have k2 := hac j hja
  have hput : (putCols q cols add)[j]? = some (ins q add[j] cols[j]) := by
    unfold putCols
    rw [List.getElem?_zipWith, List.getElem?_eq_getElem hlt, List.getElem?_eq_getElem hja]
  rw [hlen] at k1
  have HPUT : Hid ((putCols q cols add)[j]? = some (ins q add[j] cols[j])) := hput
  have HI : Hid (Ints w ra cols[j]) := hI
  have HLEN : Hid (cols[j].length = names.length) := hlen
  have HK1 : Hid (w.cell? ⟨b, off + j, none⟩ = some (.slice ra names.length rc)) := k1
  have HK2 : Hid (w.cell? ⟨ab, ao + j, none⟩ = some (.int .i64 add[j])) := k2
  clear hcc hac hput hI hlen k1 k2
  generalize cols[j] = col at *
  generalize add[j] = a at *
  have hvl : ((ins q a col).map (Value.int .i64)).length = names.length + 1 := by rw [List.length_map, ins_length a (by rw [HLEN.out]; exact hq), HLEN.out]
  have HVL : Hid (((ins q a col).map (Value.int .i64)).length = names.length + 1) := hvl
  clear hvl
  go_wp2_with fail
  have hP0 : Part (X0.alloc (.cells (madeCells #[.int .i64 0] (names.length + 1)) 2)) X0.heap.size ((ins q a col).map (Value.int .i64)) 0 := ⟨by rw [HVL.out]; exact there_made _ _ _ _, fun t v h => absurd h (Nat.not_lt_zero _)⟩
  have hB3 : Below X0.heap.size X0 (X0.alloc (.cells (madeCells #[.int .i64 0] (names.length + 1)) 2)) := (Below.refl _ _).alloc (Nat.le_refl _) _
  have hz3 : X0.heap.size < (X0.alloc (.cells (madeCells #[.int .i64 0] (names.length + 1)) 2)).heap.size := by simp
  generalize X0.alloc (.cells (madeCells #[.int .i64 0] (names.length + 1)) 2) = V1 at *
  have HP0 : Hid (Part V1 X0.heap.size ((ins q a col).map (Value.int .i64)) 0) := hP0
  clear hP0
  go_loopw [22] (fun v wr => ∃ i : Nat, i ≤ q ∧ v = .int .i64 i ∧ Below X0.heap.size X0 wr ∧ X0.heap.size < wr.heap.size ∧ Part wr X0.heap.size ((ins q a col).map (Value.int .i64)) i) (fun v _ => q - (intOf v).toNat)
  case atStart => exact ⟨0, Nat.zero_le _, rfl, hB3, hz3, HP0.out⟩
  case round =>
  rename World => X1
  obtain ⟨i, hi, rfl, hbi, hzi, hpt⟩ := hrel
  have HPT : Hid (Part X1 X0.heap.size ((ins q a col).map (Value.int .i64)) i) := hpt
  clear hpt HP0 hB3 hz3
  have hbw := hbl.trans (hbi.mono hbl.size)
  by_cases hlq : i < q
  · have hi1 : (i : Int) < q := by omega
    have hin : i < names.length := by omega
    have hi2 : (i : Int) < names.length := by omega
    have hi3 : (i : Int) < (names.length : Int) + 1 := by omega
    have hic : i < col.length := by rw [HLEN.out]; exact hin
    have hxx := HI.out
    rcases hxx with h0 | ⟨rb, ro, rfl, hxx⟩
    · rw [h0] at hic; cases hic
    have d1 : X1.cell? ⟨b, off + j, none⟩ = some (.slice (some ⟨rb, ro, none⟩) names.length rc) := by rw [hbw.cell (World.block_lt_of_cell? _ _ HK1.out)]; exact HK1.out
    have d2 : X1.cell? ⟨rb, ro + i, none⟩ = some (.int .i64 col[i]) := by rw [hbw.cell (World.block_lt_of_cell? _ _ (hxx i hic))]; exact hxx i hic
    obtain ⟨⟨u, hu⟩, hfz⟩ := HPT.out.spot i (by rw [HVL.out]; omega)
    have HV : Hid (((ins q a col).map (Value.int .i64))[i]? = some (.int .i64 col[i])) := by
      show _ = _
      rw [List.getElem?_map, ins_lt a (by rw [HLEN.out]; exact hq) hlq, List.getElem?_eq_getElem hic]; rfl
    clear hxx
    generalize col[i] = z at *
    go_wp2_with fail
    go_roundw
    case rel => exact ⟨i + 1, by omega, by go_num, hbi.setCell (p := ⟨X0.heap.size, i, none⟩) (Nat.le_refl _) _, Nat.lt_of_lt_of_le hzi (by simp [World.setCell]), HPT.out.step HV.out⟩
    case measure => simp [intOf]; omega
  have hge : (q : Int) ≤ i := by omega
  have HPQ : Hid (Part X1 X0.heap.size ((ins q a col).map (Value.int .i64)) q) := by
    have := HPT.out
    rwa [show i = q by omega] at this
  obtain ⟨⟨u, hu⟩, hfz⟩ := HPQ.out.spot q (by rw [HVL.out]; omega)
  have d3 : X1.cell? ⟨ab, ao + j, none⟩ = some (.int .i64 a) := by rw [hbw.cell (World.block_lt_of_cell? _ _ HK2.out)]; exact HK2.out
  have hq3 : (q : Int) < (names.length : Int) + 1 := by omega
  clear HPT
  go_wp2_with fail
  have hP1 : Part (X1.setCell ⟨X0.heap.size, q, none⟩ (.int .i64 a)) X0.heap.size ((ins q a col).map (Value.int .i64)) (q + 1) := HPQ.out.step (by rw [List.getElem?_map, ins_at a (by rw [HLEN.out]; exact hq)]; rfl)
  have hB4 : Below X0.heap.size X0 (X1.setCell ⟨X0.heap.size, q, none⟩ (.int .i64 a)) := hbi.setCell (p := ⟨X0.heap.size, q, none⟩) (Nat.le_refl _) _
  have hz4 : X0.heap.size < (X1.setCell ⟨X0.heap.size, q, none⟩ (.int .i64 a)).heap.size := Nat.lt_of_lt_of_le hzi (by simp [World.setCell])
  generalize X1.setCell ⟨X0.heap.size, q, none⟩ (.int .i64 a) = V2 at *
  have HP1 : Hid (Part V2 X0.heap.size ((ins q a col).map (Value.int .i64)) (q + 1)) := hP1
  clear hP1 hu hfz d3 hlq hge hi hbw hbi hzi HPQ
  go_loopw [23] (fun v wr => ∃ i : Nat, q ≤ i ∧ i ≤ names.length ∧ v = .int .i64 i ∧ Below X0.heap.size X0 wr ∧ X0.heap.size < wr.heap.size ∧ Part wr X0.heap.size ((ins q a col).map (Value.int .i64)) (i + 1)) (fun v _ => names.length - (intOf v).toNat)
  case atStart => exact ⟨q, Nat.le_refl _, hq, rfl, hB4, hz4, HP1.out⟩
  case round =>
  rename World => X2
  obtain ⟨i, hi0, hi, rfl, hbi, hzi, hpt⟩ := hrel
  have HPT : Hid (Part X2 X0.heap.size ((ins q a col).map (Value.int .i64)) (i + 1)) := hpt
  clear hpt HP1 hB4 hz4
  have hbw := hbl.trans (hbi.mono hbl.size)
  by_cases hin : i < names.length
  · have hi2 : (i : Int) < names.length := by omega
    have hi3 : (i : Int) + 1 < (names.length : Int) + 1 := by omega
    have hic : i < col.length := by rw [HLEN.out]; exact hin
    have hxx := HI.out
    rcases hxx with h0 | ⟨rb, ro, rfl, hxx⟩
    · rw [h0] at hic; cases hic
    have d1 : X2.cell? ⟨b, off + j, none⟩ = some (.slice (some ⟨rb, ro, none⟩) names.length rc) := by rw [hbw.cell (World.block_lt_of_cell? _ _ HK1.out)]; exact HK1.out
    have d2 : X2.cell? ⟨rb, ro + i, none⟩ = some (.int .i64 col[i]) := by rw [hbw.cell (World.block_lt_of_cell? _ _ (hxx i hic))]; exact hxx i hic
    obtain ⟨⟨u, hu⟩, hfz⟩ := HPT.out.spot (i + 1) (by rw [HVL.out]; omega)
    have HV : Hid (((ins q a col).map (Value.int .i64))[i + 1]? = some (.int .i64 col[i])) := by
      show _ = _
      rw [List.getElem?_map, ins_gt a (by rw [HLEN.out]; exact hq) hi0, List.getElem?_eq_getElem hic]; rfl
    clear hxx
    generalize col[i] = z at *
    go_wp2_with fail
    go_roundw
    case rel => exact ⟨i + 1, by omega, by omega, by go_num, hbi.setCell (p := ⟨X0.heap.size, i + 1, none⟩) (Nat.le_refl _) _, Nat.lt_of_lt_of_le hzi (by simp [World.setCell]), HPT.out.step HV.out⟩
    case measure => simp [intOf]; omega
  have hge : (names.length : Int) ≤ i := by omega
  have HPQ : Hid (Part X2 X0.heap.size ((ins q a col).map (Value.int .i64)) (names.length + 1)) := by
    have := HPT.out
    rwa [show i = names.length by omega] at this
  have ht2 : X2.there w.heap.size 0 cols.length := fun t h => by
    rw [hbi.cell (p := ⟨w.heap.size, 0 + t, none⟩) hz, hbi.frozen (p := ⟨w.heap.size, 0 + t, none⟩) hz]
    exact HT.out t h
  obtain ⟨hcs, hfz⟩ := ht2 j hlt
  rw [Nat.zero_add] at hcs hfz
  obtain ⟨cv, hcv⟩ := Option.isSome_iff_exists.1 hcs
  have HT2 : Hid (X2.there w.heap.size 0 cols.length) := ht2
  clear ht2 hcs HPT
  go_wp2_with fail
  go_roundw
  case rel =>
    refine ⟨j + 1, by omega, by go_num, hbw.setCell (p := ⟨w.heap.size, j, none⟩) (Nat.le_refl _) _, Nat.lt_of_lt_of_le (Nat.lt_trans hz hzi) (by simp [World.setCell]), World.there_setCells (vs := [_]) HT2.out w.heap.size j, ?_⟩
    refine rows_step (HR.out.below hbi) (by rw [E2.out]; exact hlt) HPUT.out ?_ (by rw [E2.out]; exact HT2.out) HPQ.out hz hzi
    have := HVL.out
    rwa [List.length_map] at this
  case measure => simp [intOf]; omega

end Go.Proofs.Qxb6615116a

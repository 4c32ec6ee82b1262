/-
  Statements 9 to 13 of FnAccountsOneAccountPutInAnywhere: names2 (seat b6615116a).
-/
import Derived.Test.Qxb6615116aRest
import Derived.Test.Qxb6615116aT14
namespace Go.Proofs.Qxb6615116a
open Go.RowKit
set_option linter.unusedVariables false
attribute [local go_sem] run_neq22

set_option maxRecDepth 100000 in
set_option maxHeartbeats 16000000 in
theorem t12 (w0 v w : World) (hB0 : Below w0.heap.size w0 v) (hbl : Below v.heap.size v w) (hz : v.heap.size < w.heap.size) (nb : Option Addr) (names : List ByteArray) (nd q : Nat) (nmv : ByteArray) (aa : Option Addr) (add : List Int) (ac : Nat) (wa : Option Addr) (cols : List (List Int)) (wcap : Nat)
    (hn : names.length ≤ 4096) (hq : q ≤ names.length) (hm : cols.length ≤ 65536) (hal : add.length ≤ 65536) (hH : Held names cols q nmv add.length) (hF : ∀ c ∈ cols, Fit c) (hFA : Fit add) (hw0 : wa = none → cols = [])
    (hN : NamesAt v nb names) (hC : ColsAt v wa cols) (hA : Ints v aa add)
    (hP : Part w v.heap.size ((ins q nmv names).map Value.string) q)
    {u5 u6 u7 u8 u9 u10 u11 u12 u13 u14 u17 u18 u19 u20 u21 u22 u23 u24 u25 u26 u27 u28 u29 u30 u31 u32 u33 u34 u35 u36 u37 u38 u39 u40 u41 u42 u43 u44 u45 u46 u47 u48 u49 u50 u51 u52 u53 u54 u55 u56 u57 u58 u59 u60 u61 u62 u63 u64 u65 u66 u67 u68 u69 u70 u71 u72 u73 u74 u75 u76 u77 u78 u79 u80 u81 u82 u83 u84 u85 u86 u87 u88 u89 u90 u91 u92 u93 u94 u95 u96 u97 u98 u99 u100 u101 u102 u103 u104 u105 u106 u107 u108 u109 u110 u111 u112 u113 u114 u115 u116 u117 u118 u119 u120 u121 u122 u123 u124 u125 u126 u127 u128 u129 u130 u131 u132 u133 u134 u135 u136 u137 u138 u139 u140 u141 u142 u143 u144 u145 u146 u147 u148 u149 u150 u151 u152 u153 u154 u155 u156 u157 u158 u159 u160 u161 u162 u163 u164 u165 u166 u167 u168 u169 u170 u171 u172 u173 u174 u175 u176 u177 u178 u179 u180 u181 u182 u183 u184 u185 u186 u187 u188 u189 u190 u191 u192 u193 u194 u195 u196 u197 u198 u199 u200 u201 u202 u203 u204 u205 u206 u207 u208 u209 u210 u211 u212 u213 u214 u215 u216 u217 u218 u219 u220 u221 u222 u223 u224 u225 u226 u227 u228 u229 u230 u231 u232 u233 u234 u235 u236 u237 u238 u239 u240 u241 u242 u243 u244 u245 u246 u247 u248 u249 u250 u251 u252 u253 u254 u255 u256 u257 u258 u259 u260 u261 u262 u263 u264 u265 u266 u267 u268 u269 u270 u271 u272 u273 u274 u275 u276 u277 u278 u279 u280 u281 u282 u283 u284 u285 u286 u287 u288 u289 u290 u291 u292 u293 u294 u295 u296 u297 u298 u299 u300 u301 u302 u303 u304 u305 u306 u307 u308 u309 u310 u311 u312 u313 u314 u315 u316 u317 u318 u319 u320 u321 u322 u323 : Value} :
    (rest 12).wp Try.prog (bodyPost Try.prog Try.f3 fun e w' => e = .returned (.bool true) ∧ Below w0.heap.size w0 w') ⟨#[.slice nb names.length nd, .slice wa cols.length wcap, .int .i64 q, .string nmv, .slice aa add.length ac, u5, u6, u7, u8, u9, u10, u11, u12, u13, u14, .int .i64 names.length, .slice (some ⟨v.heap.size, 0, none⟩) (names.length + 1) (names.length + 1), u17, u18, u19, u20, u21, u22, u23, u24, u25, u26, u27, u28, u29, u30, u31, u32, u33, u34, u35, u36, u37, u38, u39, u40, u41, u42, u43, u44, u45, u46, u47, u48, u49, u50, u51, u52, u53, u54, u55, u56, u57, u58, u59, u60, u61, u62, u63, u64, u65, u66, u67, u68, u69, u70, u71, u72, u73, u74, u75, u76, u77, u78, u79, u80, u81, u82, u83, u84, u85, u86, u87, u88, u89, u90, u91, u92, u93, u94, u95, u96, u97, u98, u99, u100, u101, u102, u103, u104, u105, u106, u107, u108, u109, u110, u111, u112, u113, u114, u115, u116, u117, u118, u119, u120, u121, u122, u123, u124, u125, u126, u127, u128, u129, u130, u131, u132, u133, u134, u135, u136, u137, u138, u139, u140, u141, u142, u143, u144, u145, u146, u147, u148, u149, u150, u151, u152, u153, u154, u155, u156, u157, u158, u159, u160, u161, u162, u163, u164, u165, u166, u167, u168, u169, u170, u171, u172, u173, u174, u175, u176, u177, u178, u179, u180, u181, u182, u183, u184, u185, u186, u187, u188, u189, u190, u191, u192, u193, u194, u195, u196, u197, u198, u199, u200, u201, u202, u203, u204, u205, u206, u207, u208, u209, u210, u211, u212, u213, u214, u215, u216, u217, u218, u219, u220, u221, u222, u223, u224, u225, u226, u227, u228, u229, u230, u231, u232, u233, u234, u235, u236, u237, u238, u239, u240, u241, u242, u243, u244, u245, u246, u247, u248, u249, u250, u251, u252, u253, u254, u255, u256, u257, u258, u259, u260, u261, u262, u263, u264, u265, u266, u267, u268, u269, u270, u271, u272, u273, u274, u275, u276, u277, u278, u279, u280, u281, u282, u283, u284, u285, u286, u287, u288, u289, u290, u291, u292, u293, u294, u295, u296, u297, u298, u299, u300, u301, u302, u303, u304, u305, u306, u307, u308, u309, u310, u311, u312, u313, u314, u315, u316, u317, u318, u319, u320, u321, u322, u323], []⟩ w := by
  have HN : Hid (NamesAt v nb names) := hN
  have HC : Hid (ColsAt v wa cols) := hC
  have HA : Hid (Ints v aa add) := hA
  have HH : Hid (Held names cols q nmv add.length) := hH
  have HF : Hid (∀ c ∈ cols, Fit c) := hF
  have HFA : Hid (Fit add) := hFA
  have HW0 : Hid (wa = none → cols = []) := hw0
  clear hN hC hA hH hF hFA hw0
  have hn1 : (names.length : Int) ≤ 4096 := by omega
  have hq1 : (q : Int) ≤ names.length := by omega
  have HVL : Hid (((ins q nmv names).map Value.string).length = names.length + 1) := by
    show _ = _
    rw [List.length_map, ins_length nmv hq]
  have HP : Hid (Part w v.heap.size ((ins q nmv names).map Value.string) q) := hP
  obtain ⟨⟨u, hu⟩, hfz⟩ := HP.out.spot q (by rw [HVL.out]; omega)
  have hq3 : (q : Int) < (names.length : Int) + 1 := by omega
  clear hP
  refine rest_go (by kernel_rfl) fun K hK => ?_
  conv => arg 2; whnf
  go_wp2_with fail
  have hP1 : Part (w.setCell ⟨v.heap.size, q, none⟩ (.string nmv)) v.heap.size ((ins q nmv names).map Value.string) (q + 1) := HP.out.step (by rw [List.getElem?_map, ins_at nmv hq]; rfl)
  have hB4 : Below v.heap.size v (w.setCell ⟨v.heap.size, q, none⟩ (.string nmv)) := hbl.setCell (p := ⟨v.heap.size, q, none⟩) (Nat.le_refl _) _
  have hz4 : v.heap.size < (w.setCell ⟨v.heap.size, q, none⟩ (.string nmv)).heap.size := Nat.lt_of_lt_of_le hz (by simp [World.setCell])
  generalize w.setCell ⟨v.heap.size, q, none⟩ (.string nmv) = V1 at *
  have HP1 : Hid (Part V1 v.heap.size ((ins q nmv names).map Value.string) (q + 1)) := hP1
  clear hP1 hu hfz HP hbl hz
  refine rest_go (by kernel_rfl) fun K2 hK2 => ?_
  conv => arg 2; whnf
  go_wp2_with fail
  go_loopw [18] (fun x wr => ∃ j : Nat, q ≤ j ∧ j ≤ names.length ∧ x = .int .i64 j ∧ Below v.heap.size v wr ∧ v.heap.size < wr.heap.size ∧ Part wr v.heap.size ((ins q nmv names).map Value.string) (j + 1)) (fun x _ => names.length - (intOf x).toNat)
  case atStart => exact ⟨q, Nat.le_refl _, hq, rfl, hB4, hz4, HP1.out⟩
  case round =>
  obtain ⟨j, hj0, hj, rfl, hbl, hz, hpt⟩ := hrel
  have HPT : Hid (Part wr v.heap.size ((ins q nmv names).map Value.string) (j + 1)) := hpt
  clear hpt HP1 hB4 hz4
  by_cases hjn : j < names.length
  · have hj2 : (j : Int) < names.length := by omega
    have hj3 : (j : Int) + 1 < (names.length : Int) + 1 := by omega
    have hxx := HN.out
    rcases hxx with h0 | ⟨b, off, rfl, hxx⟩
    · rw [h0] at hjn; cases hjn
    have c1 := hxx j hjn
    have d1 : wr.cell? ⟨b, off + j, none⟩ = some (.string names[j]) := by rw [hbl.cell (World.block_lt_of_cell? _ _ c1)]; exact c1
    obtain ⟨⟨u, hu⟩, hfz⟩ := HPT.out.spot (j + 1) (by rw [HVL.out]; omega)
    have HV : Hid (((ins q nmv names).map Value.string)[j + 1]? = some (.string names[j])) := by
      show _ = _
      rw [List.getElem?_map, ins_gt nmv hq hj0, List.getElem?_eq_getElem hjn]; rfl
    clear hxx c1
    generalize names[j] = s at *
    go_wp2_with fail
    go_roundw
    case rel => exact ⟨j + 1, by omega, by omega, by go_num, hbl.setCell (p := ⟨v.heap.size, j + 1, none⟩) (Nat.le_refl _) _, Nat.lt_of_lt_of_le hz (by simp [World.setCell]), HPT.out.step HV.out⟩
    case measure => simp [intOf]; omega
  have hge : (names.length : Int) ≤ j := by omega
  have HPQ : Hid (Part wr v.heap.size ((ins q nmv names).map Value.string) (ins q nmv names).length) := by
    have := HPT.out
    rwa [show j + 1 = (ins q nmv names).length by rw [ins_length nmv hq]; omega] at this
  go_wp2_with fail
  exact t14 w0 wr (hB0.trans (hbl.mono hB0.size)) nb names nd q nmv aa add ac wa cols wcap v.heap.size hn hq hm hal HH.out HF.out HFA.out HW0.out (HN.out.below hbl) HPQ.out.names (HC.out.below hbl) (HA.out.below hbl)


set_option maxRecDepth 100000 in
set_option maxHeartbeats 16000000 in
theorem t9 (w0 v : World) (hB0 : Below w0.heap.size w0 v) (nb : Option Addr) (names : List ByteArray) (nd q : Nat) (nmv : ByteArray) (aa : Option Addr) (add : List Int) (ac : Nat) (wa : Option Addr) (cols : List (List Int)) (wcap : Nat)
    (hn : names.length ≤ 4096) (hq : q ≤ names.length) (hm : cols.length ≤ 65536) (hal : add.length ≤ 65536) (hH : Held names cols q nmv add.length) (hF : ∀ c ∈ cols, Fit c) (hFA : Fit add) (hw0 : wa = none → cols = [])
    (hN : NamesAt v nb names) (hC : ColsAt v wa cols) (hA : Ints v aa add)
    {u5 u6 u7 u8 u9 u10 u11 u12 u13 u14 u15 u16 u17 u18 u19 u20 u21 u22 u23 u24 u25 u26 u27 u28 u29 u30 u31 u32 u33 u34 u35 u36 u37 u38 u39 u40 u41 u42 u43 u44 u45 u46 u47 u48 u49 u50 u51 u52 u53 u54 u55 u56 u57 u58 u59 u60 u61 u62 u63 u64 u65 u66 u67 u68 u69 u70 u71 u72 u73 u74 u75 u76 u77 u78 u79 u80 u81 u82 u83 u84 u85 u86 u87 u88 u89 u90 u91 u92 u93 u94 u95 u96 u97 u98 u99 u100 u101 u102 u103 u104 u105 u106 u107 u108 u109 u110 u111 u112 u113 u114 u115 u116 u117 u118 u119 u120 u121 u122 u123 u124 u125 u126 u127 u128 u129 u130 u131 u132 u133 u134 u135 u136 u137 u138 u139 u140 u141 u142 u143 u144 u145 u146 u147 u148 u149 u150 u151 u152 u153 u154 u155 u156 u157 u158 u159 u160 u161 u162 u163 u164 u165 u166 u167 u168 u169 u170 u171 u172 u173 u174 u175 u176 u177 u178 u179 u180 u181 u182 u183 u184 u185 u186 u187 u188 u189 u190 u191 u192 u193 u194 u195 u196 u197 u198 u199 u200 u201 u202 u203 u204 u205 u206 u207 u208 u209 u210 u211 u212 u213 u214 u215 u216 u217 u218 u219 u220 u221 u222 u223 u224 u225 u226 u227 u228 u229 u230 u231 u232 u233 u234 u235 u236 u237 u238 u239 u240 u241 u242 u243 u244 u245 u246 u247 u248 u249 u250 u251 u252 u253 u254 u255 u256 u257 u258 u259 u260 u261 u262 u263 u264 u265 u266 u267 u268 u269 u270 u271 u272 u273 u274 u275 u276 u277 u278 u279 u280 u281 u282 u283 u284 u285 u286 u287 u288 u289 u290 u291 u292 u293 u294 u295 u296 u297 u298 u299 u300 u301 u302 u303 u304 u305 u306 u307 u308 u309 u310 u311 u312 u313 u314 u315 u316 u317 u318 u319 u320 u321 u322 u323 : Value} :
    (rest 9).wp Try.prog (bodyPost Try.prog Try.f3 fun e w' => e = .returned (.bool true) ∧ Below w0.heap.size w0 w') ⟨#[.slice nb names.length nd, .slice wa cols.length wcap, .int .i64 q, .string nmv, .slice aa add.length ac, u5, u6, u7, u8, u9, u10, u11, u12, u13, u14, u15, u16, u17, u18, u19, u20, u21, u22, u23, u24, u25, u26, u27, u28, u29, u30, u31, u32, u33, u34, u35, u36, u37, u38, u39, u40, u41, u42, u43, u44, u45, u46, u47, u48, u49, u50, u51, u52, u53, u54, u55, u56, u57, u58, u59, u60, u61, u62, u63, u64, u65, u66, u67, u68, u69, u70, u71, u72, u73, u74, u75, u76, u77, u78, u79, u80, u81, u82, u83, u84, u85, u86, u87, u88, u89, u90, u91, u92, u93, u94, u95, u96, u97, u98, u99, u100, u101, u102, u103, u104, u105, u106, u107, u108, u109, u110, u111, u112, u113, u114, u115, u116, u117, u118, u119, u120, u121, u122, u123, u124, u125, u126, u127, u128, u129, u130, u131, u132, u133, u134, u135, u136, u137, u138, u139, u140, u141, u142, u143, u144, u145, u146, u147, u148, u149, u150, u151, u152, u153, u154, u155, u156, u157, u158, u159, u160, u161, u162, u163, u164, u165, u166, u167, u168, u169, u170, u171, u172, u173, u174, u175, u176, u177, u178, u179, u180, u181, u182, u183, u184, u185, u186, u187, u188, u189, u190, u191, u192, u193, u194, u195, u196, u197, u198, u199, u200, u201, u202, u203, u204, u205, u206, u207, u208, u209, u210, u211, u212, u213, u214, u215, u216, u217, u218, u219, u220, u221, u222, u223, u224, u225, u226, u227, u228, u229, u230, u231, u232, u233, u234, u235, u236, u237, u238, u239, u240, u241, u242, u243, u244, u245, u246, u247, u248, u249, u250, u251, u252, u253, u254, u255, u256, u257, u258, u259, u260, u261, u262, u263, u264, u265, u266, u267, u268, u269, u270, u271, u272, u273, u274, u275, u276, u277, u278, u279, u280, u281, u282, u283, u284, u285, u286, u287, u288, u289, u290, u291, u292, u293, u294, u295, u296, u297, u298, u299, u300, u301, u302, u303, u304, u305, u306, u307, u308, u309, u310, u311, u312, u313, u314, u315, u316, u317, u318, u319, u320, u321, u322, u323], []⟩ v := by
  have HN : Hid (NamesAt v nb names) := hN
  have HC : Hid (ColsAt v wa cols) := hC
  have HA : Hid (Ints v aa add) := hA
  have HH : Hid (Held names cols q nmv add.length) := hH
  have HF : Hid (∀ c ∈ cols, Fit c) := hF
  have HFA : Hid (Fit add) := hFA
  have HW0 : Hid (wa = none → cols = []) := hw0
  clear hN hC hA hH hF hFA hw0
  have hn1 : (names.length : Int) ≤ 4096 := by omega
  have hq1 : (q : Int) ≤ names.length := by omega
  have HVL : Hid (((ins q nmv names).map Value.string).length = names.length + 1) := by
    show _ = _
    rw [List.length_map, ins_length nmv hq]
  have hmk := fun w => run_make22 (names.length + 1) (by omega) w
  simp only [Int.natCast_add, Int.cast_ofNat_Int] at hmk
  refine rest_go (by kernel_rfl) fun K hK => ?_
  conv => arg 2; whnf
  go_wp2_with fail
  refine rest_go (by kernel_rfl) fun K2 hK2 => ?_
  conv => arg 2; whnf
  go_wp2_with fail
  have hP0 : Part (v.alloc (.cells (madeCells #[.string ⟨#[]⟩] (names.length + 1)) 9)) v.heap.size ((ins q nmv names).map Value.string) 0 := ⟨by rw [HVL.out]; exact there_made _ _ _ _, fun t v h => absurd h (Nat.not_lt_zero _)⟩
  have hB3 : Below v.heap.size v (v.alloc (.cells (madeCells #[.string ⟨#[]⟩] (names.length + 1)) 9)) := (Below.refl _ _).alloc (Nat.le_refl _) _
  have hz3 : v.heap.size < (v.alloc (.cells (madeCells #[.string ⟨#[]⟩] (names.length + 1)) 9)).heap.size := by simp
  clear hmk
  generalize v.alloc (.cells (madeCells #[.string ⟨#[]⟩] (names.length + 1)) 9) = V0 at *
  have HP0 : Hid (Part V0 v.heap.size ((ins q nmv names).map Value.string) 0) := hP0
  clear hP0
  refine rest_go (by kernel_rfl) fun K3 hK3 => ?_
  conv => arg 2; whnf
  go_wp2_with fail
  go_loopw [17] (fun x wr => ∃ j : Nat, j ≤ q ∧ x = .int .i64 j ∧ Below v.heap.size v wr ∧ v.heap.size < wr.heap.size ∧ Part wr v.heap.size ((ins q nmv names).map Value.string) j) (fun x _ => q - (intOf x).toNat)
  case atStart => exact ⟨0, Nat.zero_le _, rfl, hB3, hz3, HP0.out⟩
  case round =>
  obtain ⟨j, hj, rfl, hbl, hz, hpt⟩ := hrel
  have HPT : Hid (Part wr v.heap.size ((ins q nmv names).map Value.string) j) := hpt
  clear hpt HP0 hB3 hz3
  by_cases hlt : j < q
  · have hj1 : (j : Int) < q := by omega
    have hjn : j < names.length := by omega
    have hj2 : (j : Int) < names.length := by omega
    have hj3 : (j : Int) < (names.length : Int) + 1 := by omega
    have hxx := HN.out
    rcases hxx with h0 | ⟨b, off, rfl, hxx⟩
    · rw [h0] at hjn; cases hjn
    have c1 := hxx j hjn
    have d1 : wr.cell? ⟨b, off + j, none⟩ = some (.string names[j]) := by rw [hbl.cell (World.block_lt_of_cell? _ _ c1)]; exact c1
    obtain ⟨⟨u, hu⟩, hfz⟩ := HPT.out.spot j (by rw [HVL.out]; omega)
    have HV : Hid (((ins q nmv names).map Value.string)[j]? = some (.string names[j])) := by
      show _ = _
      rw [List.getElem?_map, ins_lt nmv hq hlt, List.getElem?_eq_getElem hjn]; rfl
    clear hxx c1
    generalize names[j] = s at *
    go_wp2_with fail
    go_roundw
    case rel => exact ⟨j + 1, by omega, by go_num, hbl.setCell (p := ⟨v.heap.size, j, none⟩) (Nat.le_refl _) _, Nat.lt_of_lt_of_le hz (by simp [World.setCell]), HPT.out.step HV.out⟩
    case measure => simp [intOf]; omega
  have hge : (q : Int) ≤ j := by omega
  have HPQ : Hid (Part wr v.heap.size ((ins q nmv names).map Value.string) q) := by
    have := HPT.out
    rwa [show j = q by omega] at this
  go_wp2_with fail
  exact t12 w0 v wr hB0 hbl hz nb names nd q nmv aa add ac wa cols wcap hn hq hm hal HH.out HF.out HFA.out HW0.out HN.out HC.out HA.out HPQ.out

end Go.Proofs.Qxb6615116a

/-
  Statements 4 to 8 of FnAccountsOneAccountPutInAnywhere: the size, the premise (seat b6615116a).
-/
import Derived.Test.Qxb6615116aRest
import Derived.Test.Qxb6615116aT9
namespace Go.Proofs.Qxb6615116a
open Go.RowKit
set_option linter.unusedVariables false
attribute [local go_sem] run_neq22

set_option maxRecDepth 100000 in
set_option maxHeartbeats 16000000 in
theorem t4 (w0 w : World) (hB0 : Below w0.heap.size w0 w) (nb : Option Addr) (names : List ByteArray) (nd : Nat) (p : Int) (nmv : ByteArray) (aa : Option Addr) (add : List Int) (ac : Nat) (wa : Option Addr) (cols : List (List Int)) (wcap : Nat)
    (hn : names.length ≤ 4096) (hm : cols.length ≤ 65536) (hnm : nmv.size ≤ 1048576) (hal : add.length ≤ 65536) (hS : ∀ s ∈ names, s.size ≤ 1048576) (hL : ∀ c ∈ cols, c.length ≤ 1048576) (hF : ∀ c ∈ cols, Fit c) (hFA : Fit add) (hw0 : wa = none → cols = [])
    (hN : NamesAt w nb names) (hC : ColsAt w wa cols) (hA : Ints w aa add)
    {u5 u6 u7 u8 u9 u10 u11 u12 u13 u14 u15 u16 u17 u18 u19 u20 u21 u22 u23 u24 u25 u26 u27 u28 u29 u30 u31 u32 u33 u34 u35 u36 u37 u38 u39 u40 u41 u42 u43 u44 u45 u46 u47 u48 u49 u50 u51 u52 u53 u54 u55 u56 u57 u58 u59 u60 u61 u62 u63 u64 u65 u66 u67 u68 u69 u70 u71 u72 u73 u74 u75 u76 u77 u78 u79 u80 u81 u82 u83 u84 u85 u86 u87 u88 u89 u90 u91 u92 u93 u94 u95 u96 u97 u98 u99 u100 u101 u102 u103 u104 u105 u106 u107 u108 u109 u110 u111 u112 u113 u114 u115 u116 u117 u118 u119 u120 u121 u122 u123 u124 u125 u126 u127 u128 u129 u130 u131 u132 u133 u134 u135 u136 u137 u138 u139 u140 u141 u142 u143 u144 u145 u146 u147 u148 u149 u150 u151 u152 u153 u154 u155 u156 u157 u158 u159 u160 u161 u162 u163 u164 u165 u166 u167 u168 u169 u170 u171 u172 u173 u174 u175 u176 u177 u178 u179 u180 u181 u182 u183 u184 u185 u186 u187 u188 u189 u190 u191 u192 u193 u194 u195 u196 u197 u198 u199 u200 u201 u202 u203 u204 u205 u206 u207 u208 u209 u210 u211 u212 u213 u214 u215 u216 u217 u218 u219 u220 u221 u222 u223 u224 u225 u226 u227 u228 u229 u230 u231 u232 u233 u234 u235 u236 u237 u238 u239 u240 u241 u242 u243 u244 u245 u246 u247 u248 u249 u250 u251 u252 u253 u254 u255 u256 u257 u258 u259 u260 u261 u262 u263 u264 u265 u266 u267 u268 u269 u270 u271 u272 u273 u274 u275 u276 u277 u278 u279 u280 u281 u282 u283 u284 u285 u286 u287 u288 u289 u290 u291 u292 u293 u294 u295 u296 u297 u298 u299 u300 u301 u302 u303 u304 u305 u306 u307 u308 u309 u310 u311 u312 u313 u314 u315 u316 u317 u318 u319 u320 u321 u322 u323 : Value} :
    (rest 4).wp Try.prog (bodyPost Try.prog Try.f3 fun e w' => e = .returned (.bool true) ∧ Below w0.heap.size w0 w') ⟨#[.slice nb names.length nd, .slice wa cols.length wcap, .int .i64 p, .string nmv, .slice aa add.length ac, u5, u6, u7, u8, u9, u10, u11, u12, u13, u14, u15, u16, u17, u18, u19, u20, u21, u22, u23, u24, u25, u26, u27, u28, u29, u30, u31, u32, u33, u34, u35, u36, u37, u38, u39, u40, u41, u42, u43, u44, u45, u46, u47, u48, u49, u50, u51, u52, u53, u54, u55, u56, u57, u58, u59, u60, u61, u62, u63, u64, u65, u66, u67, u68, u69, u70, u71, u72, u73, u74, u75, u76, u77, u78, u79, u80, u81, u82, u83, u84, u85, u86, u87, u88, u89, u90, u91, u92, u93, u94, u95, u96, u97, u98, u99, u100, u101, u102, u103, u104, u105, u106, u107, u108, u109, u110, u111, u112, u113, u114, u115, u116, u117, u118, u119, u120, u121, u122, u123, u124, u125, u126, u127, u128, u129, u130, u131, u132, u133, u134, u135, u136, u137, u138, u139, u140, u141, u142, u143, u144, u145, u146, u147, u148, u149, u150, u151, u152, u153, u154, u155, u156, u157, u158, u159, u160, u161, u162, u163, u164, u165, u166, u167, u168, u169, u170, u171, u172, u173, u174, u175, u176, u177, u178, u179, u180, u181, u182, u183, u184, u185, u186, u187, u188, u189, u190, u191, u192, u193, u194, u195, u196, u197, u198, u199, u200, u201, u202, u203, u204, u205, u206, u207, u208, u209, u210, u211, u212, u213, u214, u215, u216, u217, u218, u219, u220, u221, u222, u223, u224, u225, u226, u227, u228, u229, u230, u231, u232, u233, u234, u235, u236, u237, u238, u239, u240, u241, u242, u243, u244, u245, u246, u247, u248, u249, u250, u251, u252, u253, u254, u255, u256, u257, u258, u259, u260, u261, u262, u263, u264, u265, u266, u267, u268, u269, u270, u271, u272, u273, u274, u275, u276, u277, u278, u279, u280, u281, u282, u283, u284, u285, u286, u287, u288, u289, u290, u291, u292, u293, u294, u295, u296, u297, u298, u299, u300, u301, u302, u303, u304, u305, u306, u307, u308, u309, u310, u311, u312, u313, u314, u315, u316, u317, u318, u319, u320, u321, u322, u323], []⟩ w := by
  have HN : Hid (NamesAt w nb names) := hN
  have HC : Hid (ColsAt w wa cols) := hC
  have HA : Hid (Ints w aa add) := hA
  have HF : Hid (∀ c ∈ cols, Fit c) := hF
  have HFA : Hid (Fit add) := hFA
  have HW0 : Hid (wa = none → cols = []) := hw0
  have HS : Hid (∀ s ∈ names, s.size ≤ 1048576) := hS
  have HL : Hid (∀ c ∈ cols, c.length ≤ 1048576) := hL
  clear hN hC hA hF hFA hw0 hS hL
  refine rest_go (by kernel_rfl) fun K hK => ?_
  conv => arg 2; whnf
  go_wp2_with fail
  refine rest_go (by kernel_rfl) fun K2 hK2 => ?_
  conv => arg 2; whnf
  by_cases l5 : 1048576 < (nmv.size : Int) + 8 * add.length
  · go_wp2_with fail
    go_ret
    exact ⟨rfl, hB0⟩
  go_wp2_with fail
  refine rest_go (by kernel_rfl) fun K3 hK3 => ?_
  conv => arg 2; whnf
  go_wp2_with fail
  go_loop [12, 13] (fun z i => ∃ j k : Nat, j ≤ names.length ∧ k ≤ 1048576 ∧ z = .int .i64 k ∧ i = .int .i64 j) (fun _ i => names.length - (intOf i).toNat)
  case atStart => exact ⟨0, nmv.size + 8 * add.length, Nat.zero_le _, by omega, by go_num, rfl⟩
  case round =>
  obtain ⟨j, k, hj, hk, rfl, rfl⟩ := hrel
  by_cases hlt : j < names.length
  · have hj1 : (j : Int) < names.length := by omega
    rcases HN.out with h0 | ⟨b, off, rfl, hx⟩
    · rw [h0] at hlt; cases hlt
    have c1 := hx j hlt
    have hsz := HS.out _ (List.getElem_mem hlt)
    clear hx
    generalize names[j] = s at *
    by_cases h3 : 1048576 < (k : Int) + (s.size + 8)
    · go_wp2_with fail
      go_ret
      exact ⟨rfl, hB0⟩
    go_wp2_with fail
    go_round
    case rel => exact ⟨j + 1, k + (s.size + 8), by omega, by omega, by go_num, by go_num⟩
    case measure => simp [intOf]; omega
  have hge : (names.length : Int) ≤ j := by omega
  go_wp2_with fail
  clear hlt hge hj l5
  refine rest_go (by kernel_rfl) fun K4 hK4 => ?_
  conv => arg 2; whnf
  go_wp2_with fail
  go_loop [12, 14] (fun z i => ∃ j k : Nat, j ≤ cols.length ∧ k ≤ 1048576 ∧ z = .int .i64 k ∧ i = .int .i64 j) (fun _ i => cols.length - (intOf i).toNat)
  case atStart => exact ⟨0, k, Nat.zero_le _, by omega, rfl, rfl⟩
  case round =>
  clear hk
  obtain ⟨j, k, hj, hk, rfl, rfl⟩ := hrel
  by_cases hlt : j < cols.length
  · have hj1 : (j : Int) < cols.length := by omega
    rcases HC.out with h0 | ⟨b, off, rfl, hx⟩
    · rw [h0] at hlt; cases hlt
    obtain ⟨ra, rc, c1, _⟩ := hx j hlt
    have hsz := HL.out _ (List.getElem_mem hlt)
    clear hx
    generalize cols[j].length = s at *
    by_cases h3 : 1048576 < (k : Int) + (8 * s + 8)
    · go_wp2_with fail
      go_ret
      exact ⟨rfl, hB0⟩
    go_wp2_with fail
    go_round
    case rel => exact ⟨j + 1, k + (8 * s + 8), by omega, by omega, by go_num, by go_num⟩
    case measure => simp [intOf]; omega
  have hge : (cols.length : Int) ≤ j := by omega
  go_wp2_with fail
  clear hlt hge hj hk
  have A1 := premise_any nb names nd wa cols wcap p nmv aa add.length ac w (by omega) (by omega) (by omega) HL.out HN.out HC.out
  have HP : Hid (Calls Try.prog 6 #[.slice nb names.length nd, .slice wa cols.length wcap, .int .i64 p, .string nmv, .slice aa add.length ac] w fun e w' => Prem names cols p nmv add.length e ∧ Below w.heap.size w w') := A1
  clear A1
  refine rest_go (by kernel_rfl) fun K5 hK5 => ?_
  conv => arg 2; whnf
  go_wp2_with fail
  refine HP.out.mono ?_
  rintro e W1 ⟨⟨x, rfl, hx⟩, hB2⟩
  have hB3 := hB0.trans (hB2.mono hB0.size)
  cases x
  · clear hx
    go_wp2_with fail
    go_ret
    exact ⟨rfl, hB3⟩
  have hH := hx rfl
  obtain ⟨q, rfl⟩ : ∃ q : Nat, p = q := ⟨p.toNat, by have := hH.p0; omega⟩
  have hq : q ≤ names.length := by have := hH.p1; omega
  have HH : Hid (Held names cols q nmv add.length) := hH
  clear hH hx HP
  go_wp2_with fail
  exact t9 w0 W1 hB3 nb names nd q nmv aa add ac wa cols wcap hn hq hm hal HH.out HF.out HFA.out HW0.out (HN.out.below hB2) (HC.out.below hB2) (HA.out.below hB2)

end Go.Proofs.Qxb6615116a

/-
  Statements 16 to 19 of FnAccountsOneAccountPutInAnywhere: before, after, the counts (seat b6615116a).
-/
import Derived.Test.Qxb6615116aRest
import Derived.Test.Qxb6615116aT20
namespace Go.Proofs.Qxb6615116a
open Go.RowKit
set_option linter.unusedVariables false
attribute [local go_sem] run_neq22

set_option maxRecDepth 100000 in
set_option maxHeartbeats 16000000 in
theorem t16 (w0 w : World) (hB0 : Below w0.heap.size w0 w) (nb : Option Addr) (names : List ByteArray) (nd q : Nat) (nmv : ByteArray) (aa : Option Addr) (add : List Int) (ac : Nat) (wa : Option Addr) (cols : List (List Int)) (wcap b2 b3 : Nat)
    (hn : names.length ≤ 4096) (hq : q ≤ names.length) (hm : cols.length ≤ 65536) (hal : add.length ≤ 65536) (hH : Held names cols q nmv add.length) (hF : ∀ c ∈ cols, Fit c) (hFA : Fit add) (hw0 : wa = none → cols = [])
    (hN : NamesAt w nb names) (hN2 : NamesAt w (some ⟨b2, 0, none⟩) (ins q nmv names)) (hC : ColsAt w wa cols) (hC2 : ColsAt w (some ⟨b3, 0, none⟩) (putCols q cols add)) (hA : Ints w aa add)
    {u5 u6 u7 u8 u9 u10 u11 u12 u13 u14 u17 u18 u20 u21 u22 u23 u24 u25 u26 u27 u28 u29 u30 u31 u32 u33 u34 u35 u36 u37 u38 u39 u40 u41 u42 u43 u44 u45 u46 u47 u48 u49 u50 u51 u52 u53 u54 u55 u56 u57 u58 u59 u60 u61 u62 u63 u64 u65 u66 u67 u68 u69 u70 u71 u72 u73 u74 u75 u76 u77 u78 u79 u80 u81 u82 u83 u84 u85 u86 u87 u88 u89 u90 u91 u92 u93 u94 u95 u96 u97 u98 u99 u100 u101 u102 u103 u104 u105 u106 u107 u108 u109 u110 u111 u112 u113 u114 u115 u116 u117 u118 u119 u120 u121 u122 u123 u124 u125 u126 u127 u128 u129 u130 u131 u132 u133 u134 u135 u136 u137 u138 u139 u140 u141 u142 u143 u144 u145 u146 u147 u148 u149 u150 u151 u152 u153 u154 u155 u156 u157 u158 u159 u160 u161 u162 u163 u164 u165 u166 u167 u168 u169 u170 u171 u172 u173 u174 u175 u176 u177 u178 u179 u180 u181 u182 u183 u184 u185 u186 u187 u188 u189 u190 u191 u192 u193 u194 u195 u196 u197 u198 u199 u200 u201 u202 u203 u204 u205 u206 u207 u208 u209 u210 u211 u212 u213 u214 u215 u216 u217 u218 u219 u220 u221 u222 u223 u224 u225 u226 u227 u228 u229 u230 u231 u232 u233 u234 u235 u236 u237 u238 u239 u240 u241 u242 u243 u244 u245 u246 u247 u248 u249 u250 u251 u252 u253 u254 u255 u256 u257 u258 u259 u260 u261 u262 u263 u264 u265 u266 u267 u268 u269 u270 u271 u272 u273 u274 u275 u276 u277 u278 u279 u280 u281 u282 u283 u284 u285 u286 u287 u288 u289 u290 u291 u292 u293 u294 u295 u296 u297 u298 u299 u300 u301 u302 u303 u304 u305 u306 u307 u308 u309 u310 u311 u312 u313 u314 u315 u316 u317 u318 u319 u320 u321 u322 u323 : Value} :
    (rest 16).wp Try.prog (bodyPost Try.prog Try.f3 fun e w' => e = .returned (.bool true) ∧ Below w0.heap.size w0 w') ⟨#[.slice nb names.length nd, .slice wa cols.length wcap, .int .i64 q, .string nmv, .slice aa add.length ac, u5, u6, u7, u8, u9, u10, u11, u12, u13, u14, .int .i64 names.length, .slice (some ⟨b2, 0, none⟩) (names.length + 1) (names.length + 1), u17, u18, .slice (some ⟨b3, 0, none⟩) cols.length cols.length, u20, u21, u22, u23, u24, u25, u26, u27, u28, u29, u30, u31, u32, u33, u34, u35, u36, u37, u38, u39, u40, u41, u42, u43, u44, u45, u46, u47, u48, u49, u50, u51, u52, u53, u54, u55, u56, u57, u58, u59, u60, u61, u62, u63, u64, u65, u66, u67, u68, u69, u70, u71, u72, u73, u74, u75, u76, u77, u78, u79, u80, u81, u82, u83, u84, u85, u86, u87, u88, u89, u90, u91, u92, u93, u94, u95, u96, u97, u98, u99, u100, u101, u102, u103, u104, u105, u106, u107, u108, u109, u110, u111, u112, u113, u114, u115, u116, u117, u118, u119, u120, u121, u122, u123, u124, u125, u126, u127, u128, u129, u130, u131, u132, u133, u134, u135, u136, u137, u138, u139, u140, u141, u142, u143, u144, u145, u146, u147, u148, u149, u150, u151, u152, u153, u154, u155, u156, u157, u158, u159, u160, u161, u162, u163, u164, u165, u166, u167, u168, u169, u170, u171, u172, u173, u174, u175, u176, u177, u178, u179, u180, u181, u182, u183, u184, u185, u186, u187, u188, u189, u190, u191, u192, u193, u194, u195, u196, u197, u198, u199, u200, u201, u202, u203, u204, u205, u206, u207, u208, u209, u210, u211, u212, u213, u214, u215, u216, u217, u218, u219, u220, u221, u222, u223, u224, u225, u226, u227, u228, u229, u230, u231, u232, u233, u234, u235, u236, u237, u238, u239, u240, u241, u242, u243, u244, u245, u246, u247, u248, u249, u250, u251, u252, u253, u254, u255, u256, u257, u258, u259, u260, u261, u262, u263, u264, u265, u266, u267, u268, u269, u270, u271, u272, u273, u274, u275, u276, u277, u278, u279, u280, u281, u282, u283, u284, u285, u286, u287, u288, u289, u290, u291, u292, u293, u294, u295, u296, u297, u298, u299, u300, u301, u302, u303, u304, u305, u306, u307, u308, u309, u310, u311, u312, u313, u314, u315, u316, u317, u318, u319, u320, u321, u322, u323], []⟩ w := by
  have HN : Hid (NamesAt w nb names) := hN
  have HN2 : Hid (NamesAt w (some ⟨b2, 0, none⟩) (ins q nmv names)) := hN2
  have HC : Hid (ColsAt w wa cols) := hC
  have HC2 : Hid (ColsAt w (some ⟨b3, 0, none⟩) (putCols q cols add)) := hC2
  have HA : Hid (Ints w aa add) := hA
  have HH : Hid (Held names cols q nmv add.length) := hH
  have HF : Hid (∀ c ∈ cols, Fit c) := hF
  have HFA : Hid (Fit add) := hFA
  have HW0 : Hid (wa = none → cols = []) := hw0
  have hadds := hH.adds
  have hpm := putCols_mem (add := add) hq (fun c hc => ⟨hH.lens c hc, hF c hc⟩) hFA
  have HPM : Hid (∀ c ∈ putCols q cols add, c.length = names.length + 1 ∧ Fit c) := hpm
  have e1 : (ins q nmv names).length = names.length + 1 := ins_length nmv hq
  have e2 : (putCols q cols add).length = cols.length := putCols_length q cols add hadds
  clear hN hN2 hC hC2 hA hH hF hFA hw0 hpm hadds
  have n2 : cols.length ≤ 1048576 := by omega
  -- before
  have A1 := zzBigCols_any wa cols wcap w n2 (fun c hc => ⟨by rw [HH.out.lens c hc]; omega, HF.out c hc⟩) HW0.out HC.out
  have HA1 : Hid (Calls Try.prog 8 #[.slice wa cols.length wcap] w fun e w' => (∃ a', e = .returned (.slice a' cols.length cols.length) ∧ BigCols w' a' cols) ∧ Below w.heap.size w w') := A1
  clear A1
  refine rest_go (by kernel_rfl) fun K hK => ?_
  conv => arg 2; whnf
  go_wp2_with fail
  refine HA1.out.mono ?_
  rintro e W1 ⟨⟨a1, rfl, hb1⟩, hB2⟩
  have A2 := zzAccounts_any nb names nd a1 cols cols.length W1 (by omega) n2 HH.out.lens (fun c hc => by rw [HH.out.lens c hc]; omega) (HN.out.below hB2) hb1
  have HA2 : Hid (Calls Try.prog 7 #[.slice nb names.length nd, .slice a1 cols.length cols.length] W1 fun e w' => (∃ a c ds, e = .returned (.slice a (List.length ds) c) ∧ ds.Perm (picked cols names.length) ∧ Srt names ds ∧ NumsAt w' a ds) ∧ Below W1.heap.size W1 w') := A2
  clear A2 hb1 HA1
  go_wp2_with fail
  refine HA2.out.mono ?_
  rintro e W2 ⟨⟨x1, c1, ds, rfl, hp1, hs1, hn1⟩, hB3⟩
  have HD1 : Hid (ds.Perm (picked cols names.length) ∧ Srt names ds) := ⟨hp1, hs1⟩
  have HM1 : Hid (NumsAt W2 x1 ds) := hn1
  have hB4 := hB2.trans (hB3.mono hB2.size)
  clear HA2 hp1 hs1 hn1 hB2 hB3
  go_wp2_with fail
  -- after
  have A1 := zzBigCols_any (some ⟨b3, 0, none⟩) (putCols q cols add) cols.length W2 (by omega) (fun c hc => ⟨by rw [(HPM.out c hc).1]; omega, (HPM.out c hc).2⟩) (fun h => by cases h) (HC2.out.below hB4)
  rw [e2] at A1
  have HA1 : Hid (Calls Try.prog 8 #[.slice (some ⟨b3, 0, none⟩) cols.length cols.length] W2 fun e w' => (∃ a', e = .returned (.slice a' cols.length cols.length) ∧ BigCols w' a' (putCols q cols add)) ∧ Below W2.heap.size W2 w') := A1
  clear A1
  refine rest_go (by kernel_rfl) fun K2 hK2 => ?_
  conv => arg 2; whnf
  go_wp2_with fail
  refine HA1.out.mono ?_
  rintro e W3 ⟨⟨a2, rfl, hb1⟩, hB2⟩
  have hB5 := hB4.trans (hB2.mono hB4.size)
  have A2 := zzAccounts_any (some ⟨b2, 0, none⟩) (ins q nmv names) (names.length + 1) a2 (putCols q cols add) cols.length W3 (by omega) (by omega) (fun c hc => by rw [(HPM.out c hc).1, e1]) (fun c hc => by rw [(HPM.out c hc).1]; omega) (HN2.out.below hB5) hb1
  rw [e1, e2] at A2
  have HA2 : Hid (Calls Try.prog 7 #[.slice (some ⟨b2, 0, none⟩) (names.length + 1) (names.length + 1), .slice a2 cols.length cols.length] W3 fun e w' => (∃ a c ds, e = .returned (.slice a (List.length ds) c) ∧ ds.Perm (picked (putCols q cols add) (names.length + 1)) ∧ Srt (ins q nmv names) ds ∧ NumsAt w' a ds) ∧ Below W3.heap.size W3 w') := A2
  clear A2 hb1 HA1
  go_wp2_with fail
  refine HA2.out.mono ?_
  rintro e W4 ⟨⟨x, c, es, rfl, hp1, hs1, hn1⟩, hB3⟩
  have HD2 : Hid (es.Perm (picked (putCols q cols add) (names.length + 1)) ∧ Srt (ins q nmv names) es) := ⟨hp1, hs1⟩
  have HM2 : Hid (NumsAt W4 x es) := hn1
  have HM3 : Hid (NumsAt W4 x1 ds) := (HM1.out.below hB2).below hB3
  have hB6 := hB5.trans (hB3.mono hB5.size)
  clear HA2 hp1 hs1 hn1 hB2 hB3 hB4 hB5 HM1
  go_wp2_with fail
  -- counts
  have A1 := counts_picked x1 c1 names.length cols ds W4 (by omega) HD1.out.1 HM3.out
  have HA1 : Hid (Calls Try.prog 9 #[.slice x1 ds.length c1, .int .i64 names.length] W4 fun e w' => (∃ b, e = .returned (.tuple #[.slice (some ⟨b, 0, none⟩) names.length names.length, .bool true]) ∧ CountsAt w' b names.length (wgh cols)) ∧ Below W4.heap.size W4 w') := A1
  clear A1
  refine rest_go (by kernel_rfl) fun K3 hK3 => ?_
  conv => arg 2; whnf
  go_wp2_with fail
  refine HA1.out.mono ?_
  rintro e W5 ⟨⟨b1, rfl, hk1⟩, hB7⟩
  have HK1 : Hid (CountsAt W5 b1 names.length (wgh cols)) := hk1
  have hB8 := hB6.trans (hB7.mono hB6.size)
  clear hk1 HA1
  go_wp2_with fail
  refine rest_go (by kernel_rfl) fun K4 hK4 => ?_
  conv => arg 2; whnf
  go_wp2_with fail
  have hl1 : ds.length ≤ 4096 := by have := HD1.out.1.length_eq; have := picked_le cols names.length; omega
  have hl2 : es.length ≤ 1048577 := by have := HD2.out.1.length_eq; have := picked_le (putCols q cols add) (names.length + 1); omega
  exact t20 w0 W5 (hB0.trans (hB8.mono hB0.size)) nb names nd q nmv x1 c1 ds x c es hn hq hl1 hl2 (picked_lt HD1.out.1) (HN.out.below hB8) (HM3.out.below hB7) (HM2.out.below hB7) aa add ac hal (HA.out.below hB8)
    (put_said HH.out hq HD1.out.1 HD1.out.2 HD2.out.1 HD2.out.2).symm wa cols wcap b1 hm HH.out.lens (HC.out.below hB8) HK1.out

end Go.Proofs.Qxb6615116a

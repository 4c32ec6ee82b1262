/-
  Statement 25 of FnAccountsOneAccountPutInAnywhere: the loop that makes 'want' (seat b6615116a).
-/
import Derived.Test.Qxb6615116aRest
import Derived.Test.Qxb6615116aT26
namespace Go.Proofs.Qxb6615116a
open Go.RowKit
set_option linter.unusedVariables false
attribute [local go_sem] run_neq22

/-- The state of the loop that makes 'want'. -/
def WantInv (wb : World) (ds es : List Nat) (gt : Nat → Bool) (q : Nat) (v b i : Value) (wr : World) : Prop :=
  ∃ (k : Nat) (acc : List Nat) (pl : Bool), k ≤ ds.length ∧ i = .int .i64 k ∧ b = .bool pl ∧ Below wb.heap.size wb wr ∧ wr.ownsRow wb.heap.size 3 1 v acc.length (cellsOf acc) ∧ acc ++ wantL gt q pl (ds.drop k) = es
theorem WantInv.mk {wb : World} {ds es : List Nat} {gt : Nat → Bool} {q : Nat} {v b i : Value} {wr : World} (k : Nat) (acc : List Nat) (pl : Bool) (h1 : k ≤ ds.length) (h2 : i = .int .i64 k) (h3 : b = .bool pl) (h4 : Below wb.heap.size wb wr) (h5 : wr.ownsRow wb.heap.size 3 1 v acc.length (cellsOf acc)) (h6 : acc ++ wantL gt q pl (ds.drop k) = es) :
    WantInv wb ds es gt q v b i wr := ⟨k, acc, pl, h1, h2, h3, h4, h5, h6⟩
theorem want_step (gt : Nat → Bool) (q y : Nat) (pl : Bool) (ys : List Nat) : wantL gt q pl (y :: ys) = (if (!pl && gt y) = true then q :: sh q y :: wantL gt q true ys else sh q y :: wantL gt q pl ys) := by
  rw [wantL]

set_option maxRecDepth 100000 in
set_option maxHeartbeats 16000000 in
theorem t25 (w0 wb w : World) (hB0 : Below w0.heap.size w0 wb) (hB : Below wb.heap.size wb w) (nb : Option Addr) (names : List ByteArray) (nd q : Nat) (nmv : ByteArray) (x1 : Option Addr) (c1 : Nat) (ds : List Nat) (x : Option Addr) (c : Nat) (es : List Nat) (av : Option Addr) (cv : Nat) (pl0 : Bool)
    (hn : names.length ≤ 4096) (hq : q ≤ names.length) (hdl : ds.length ≤ 4096) (hes : es.length ≤ 1048577) (hd : ∀ y ∈ ds, y < names.length) (hN : NamesAt wb nb names) (hD : NumsAt wb x1 ds) (hE : NumsAt wb x es)
    (hw : wantL (fun x => decide (nmv.toList < (nm names x).toList)) q pl0 ds = es) (ho : w.ownsRow wb.heap.size 3 1 (.slice av 0 cv) 0 [])
    {u1 u4 u5 u6 u7 u8 u9 u10 u11 u12 u13 u14 u15 u16 u17 u18 u19 u20 u21 u22 u23 u26 u27 u28 u29 u30 u33 u34 u35 u36 u37 u38 u39 u40 u41 u42 u43 u44 u45 u46 u47 u48 u49 u50 u51 u52 u53 u54 u55 u56 u57 u58 u59 u60 u61 u62 u63 u64 u65 u66 u67 u68 u69 u70 u71 u72 u73 u74 u75 u76 u77 u78 u79 u80 u81 u82 u83 u84 u85 u86 u87 u88 u89 u90 u91 u92 u93 u94 u95 u96 u97 u98 u99 u100 u101 u102 u103 u104 u105 u106 u107 u108 u109 u110 u111 u112 u113 u114 u115 u116 u117 u118 u119 u120 u121 u122 u123 u124 u125 u126 u127 u128 u129 u130 u131 u132 u133 u134 u135 u136 u137 u138 u139 u140 u141 u142 u143 u144 u145 u146 u147 u148 u149 u150 u151 u152 u153 u154 u155 u156 u157 u158 u159 u160 u161 u162 u163 u164 u165 u166 u167 u168 u169 u170 u171 u172 u173 u174 u175 u176 u177 u178 u179 u180 u181 u182 u183 u184 u185 u186 u187 u188 u189 u190 u191 u192 u193 u194 u195 u196 u197 u198 u199 u200 u201 u202 u203 u204 u205 u206 u207 u208 u209 u210 u211 u212 u213 u214 u215 u216 u217 u218 u219 u220 u221 u222 u223 u224 u225 u226 u227 u228 u229 u230 u231 u232 u233 u234 u235 u236 u237 u238 u239 u240 u241 u242 u243 u244 u245 u246 u247 u248 u249 u250 u251 u252 u253 u254 u255 u256 u257 u258 u259 u260 u261 u262 u263 u264 u265 u266 u267 u268 u269 u270 u271 u272 u273 u274 u275 u276 u277 u278 u279 u280 u281 u282 u283 u284 u285 u286 u287 u288 u289 u290 u291 u292 u293 u294 u295 u296 u297 u298 u299 u300 u301 u302 u303 u304 u305 u306 u307 u308 u309 u310 u311 u312 u313 u314 u315 u316 u317 u318 u319 u320 u321 u322 u323 : Value} :
    (rest 25).wp Try.prog (bodyPost Try.prog Try.f3 fun e w' => e = .returned (.bool true) ∧ Below w0.heap.size w0 w') ⟨#[.slice nb names.length nd, u1, .int .i64 q, .string nmv, u4, u5, u6, u7, u8, u9, u10, u11, u12, u13, u14, u15, u16, u17, u18, u19, u20, u21, u22, u23, .slice x1 ds.length c1, .slice x es.length c, u26, u27, u28, u29, u30, .slice av 0 cv, .bool pl0, u33, u34, u35, u36, u37, u38, u39, u40, u41, u42, u43, u44, u45, u46, u47, u48, u49, u50, u51, u52, u53, u54, u55, u56, u57, u58, u59, u60, u61, u62, u63, u64, u65, u66, u67, u68, u69, u70, u71, u72, u73, u74, u75, u76, u77, u78, u79, u80, u81, u82, u83, u84, u85, u86, u87, u88, u89, u90, u91, u92, u93, u94, u95, u96, u97, u98, u99, u100, u101, u102, u103, u104, u105, u106, u107, u108, u109, u110, u111, u112, u113, u114, u115, u116, u117, u118, u119, u120, u121, u122, u123, u124, u125, u126, u127, u128, u129, u130, u131, u132, u133, u134, u135, u136, u137, u138, u139, u140, u141, u142, u143, u144, u145, u146, u147, u148, u149, u150, u151, u152, u153, u154, u155, u156, u157, u158, u159, u160, u161, u162, u163, u164, u165, u166, u167, u168, u169, u170, u171, u172, u173, u174, u175, u176, u177, u178, u179, u180, u181, u182, u183, u184, u185, u186, u187, u188, u189, u190, u191, u192, u193, u194, u195, u196, u197, u198, u199, u200, u201, u202, u203, u204, u205, u206, u207, u208, u209, u210, u211, u212, u213, u214, u215, u216, u217, u218, u219, u220, u221, u222, u223, u224, u225, u226, u227, u228, u229, u230, u231, u232, u233, u234, u235, u236, u237, u238, u239, u240, u241, u242, u243, u244, u245, u246, u247, u248, u249, u250, u251, u252, u253, u254, u255, u256, u257, u258, u259, u260, u261, u262, u263, u264, u265, u266, u267, u268, u269, u270, u271, u272, u273, u274, u275, u276, u277, u278, u279, u280, u281, u282, u283, u284, u285, u286, u287, u288, u289, u290, u291, u292, u293, u294, u295, u296, u297, u298, u299, u300, u301, u302, u303, u304, u305, u306, u307, u308, u309, u310, u311, u312, u313, u314, u315, u316, u317, u318, u319, u320, u321, u322, u323], []⟩ w := by
  have HN : Hid (NamesAt wb nb names) := hN
  have HD : Hid (NumsAt wb x1 ds) := hD
  have HE : Hid (NumsAt wb x es) := hE
  have HDL : Hid (∀ y ∈ ds, y < names.length) := hd
  have HW0 : Hid (wantL (fun x => decide (nmv.toList < (nm names x).toList)) q pl0 ds = es) := hw
  have HO0 : Hid (w.ownsRow wb.heap.size 3 1 (.slice av 0 cv) 0 []) := ho
  clear hN hD hE hd hw ho
  have hd1 : (ds.length : Int) ≤ 4096 := by omega
  refine rest_go (by kernel_rfl) fun K hK => ?_
  conv => arg 2; whnf
  go_wp2_with fail
  go_loopw [31, 32, 33] (fun v b i wr => WantInv wb ds es (fun x => decide (nmv.toList < (nm names x).toList)) q v b i wr) (fun _ _ i _ => ds.length - (intOf i).toNat)
  case atStart => exact WantInv.mk 0 [] pl0 (Nat.zero_le _) rfl rfl hB HO0.out (by simpa using HW0.out)
  case round =>
  obtain ⟨k, acc, pl, hk, rfl, rfl, hwr, ho, he⟩ := hrel
  clear HO0 HW0 hB
  obtain ⟨avr, cvr, rfl⟩ := own_slice ho
  have HO : Hid (wr.ownsRow wb.heap.size 3 1 (.slice avr acc.length cvr) acc.length (cellsOf acc)) := ho
  have hal : acc.length ≤ es.length := by rw [← he]; simp
  have zwr := hwr.size
  clear ho
  by_cases hlt : k < ds.length
  rotate_left
  · have hge : (ds.length : Int) ≤ k := by omega
    have HT : Hid (acc ++ (if pl then [] else [q]) = es) := by
      have h := he
      rw [List.drop_eq_nil_of_le (by omega)] at h
      exact h
    clear he
    go_wp2_with fail
    exact t26 w0 wb wr hB0 hwr q (by omega) x c acc es pl avr cvr hes HT.out HE.out HO.out
  have hk1 : (k : Int) < ds.length := by omega
  rw [List.drop_eq_getElem_cons hlt, want_step] at he
  rcases HD.out with h0 | ⟨db, rfl, hr⟩
  · rw [h0] at hlt; cases hlt
  have k1 := hr k hlt
  have hyn := HDL.out _ (List.getElem_mem hlt)
  rcases HN.out with h0 | ⟨b, off, rfl, hx⟩
  · rw [h0] at hyn; cases hyn
  have k2 := hx _ hyn
  rw [nm_get names hyn] at he
  have d1 : wr.cell? ⟨db, k, none⟩ = some (.int .i64 (ds[k] : Int)) := by rw [hwr.cell (World.block_lt_of_cell? _ _ k1)]; exact k1
  have d2 : wr.cell? ⟨b, off + ds[k], none⟩ = some (.string names[ds[k]]) := by rw [hwr.cell (World.block_lt_of_cell? _ _ k2)]; exact k2
  have K1 : Hid (wb.cell? ⟨db, k, none⟩ = some (.int .i64 (ds[k] : Int))) := k1
  have hyn1 : (ds[k] : Int) < names.length := by omega
  clear k1 k2 hr hx
  generalize names[ds[k]] = s at *
  generalize ds[k] = y at *
  obtain ⟨g, hg⟩ : ∃ g, g = decide (nmv.toList < s.toList) := ⟨_, rfl⟩
  rw [← hg] at he
  have HG : Hid ((!(Op.bytesLess s.toList nmv.toList) && !(s.toList == nmv.toList)) = g) := (gt_form s nmv).trans hg.symm
  clear hg
  cases pl
  · cases g
    · have hgf : (!(Op.bytesLess s.toList nmv.toList) && !(s.toList == nmv.toList)) = false := HG.out
      have hgf2 : (Op.bytesLess s.toList nmv.toList || s.toList == nmv.toList) = true := by
        have h := HG.out
        generalize Op.bytesLess s.toList nmv.toList = A at *
        generalize (s.toList == nmv.toList) = B at *
        cases A <;> cases B <;> simp_all
      have hW : acc ++ sh q y :: wantL (fun x => decide (nmv.toList < (nm names x).toList)) q false (ds.drop (k + 1)) = es := by simpa using he
      have HW : Hid (acc ++ sh q y :: wantL (fun x => decide (nmv.toList < (nm names x).toList)) q false (ds.drop (k + 1)) = es) := hW
      clear hW
      clear he HG
      by_cases hyq : q ≤ y
      · have hy1 : (q : Int) ≤ y := by omega
        have hsh : sh q y = y + 1 := by unfold sh; rw [if_pos hyq]
        go_wp2_with (
          refine wpList_append_own _ rfl _ _ 26 rfl wb.heap.size 3 i3 (.int .i64 0) 1 8 Try.underlying26 (by kernel_rfl) (by kernel_rfl) (by kernel_rfl) (by kernel_rfl) rfl (by omega) _ _ _ rfl (HO.out.alloc _) ⟨wr.heap.size, 0, none⟩ 1 1 [.int .i64 ((y : Int) + 1)] rfl rfl (by
            intro t u hu
            cases t with
            | zero => simp at hu; subst hu; rw [Addr.add_mid, World.cell?_alloc_new]; rfl
            | succ t => simp at hu) (by simp [Value.oneCell']) (by unfold maxLen; omega) (by omega) (by simp; omega) ?_
          rintro v' wz ho' hg' _
          have hwz : Below wb.heap.size wb wz := below_grown (hwr.alloc hwr.size _) hg' (by have := hwr.size; simp; omega) (fun k hk => (HO.out.lt k hk).1)
          have zwz := hwz.size
          obtain ⟨avwz, cvwz, rfl⟩ := own_slice ho'
          have HOwz : Hid (wz.ownsRow wb.heap.size 3 1 (.slice avwz (acc.length + 1) cvwz) (acc.length + 1) (cellsOf acc ++ [.int .i64 ((y : Int) + 1)])) := ho'
          clear ho' hg')
        go_roundw
        case rel =>
          refine WantInv.mk (k + 1) (acc ++ [sh q y]) false (by omega) (by go_num) rfl hwz ?_ ?_
          · have e : cellsOf (acc ++ [sh q y]) = cellsOf acc ++ [.int .i64 ((y : Int) + 1)] := by
              rw [hsh]
              simp [cellsOf]
            rw [e, List.length_append, List.length_singleton]
    
            exact HOwz.out
          · rw [← HW.out]; simp
        case measure => simp [intOf]; omega
      · have hy1 : (y : Int) < q := by omega
        have hsh : sh q y = y := by unfold sh; rw [if_neg hyq]
        go_wp2_with (
          refine wpList_append_own _ rfl _ _ 26 rfl wb.heap.size 3 i3 (.int .i64 0) 1 8 Try.underlying26 (by kernel_rfl) (by kernel_rfl) (by kernel_rfl) (by kernel_rfl) rfl (by omega) _ _ _ rfl (HO.out.alloc _) ⟨wr.heap.size, 0, none⟩ 1 1 [.int .i64 (y : Int)] rfl rfl (by
            intro t u hu
            cases t with
            | zero => simp at hu; subst hu; rw [Addr.add_mid, World.cell?_alloc_new]; rfl
            | succ t => simp at hu) (by simp [Value.oneCell']) (by unfold maxLen; omega) (by omega) (by simp; omega) ?_
          rintro v' wz ho' hg' _
          have hwz : Below wb.heap.size wb wz := below_grown (hwr.alloc hwr.size _) hg' (by have := hwr.size; simp; omega) (fun k hk => (HO.out.lt k hk).1)
          have zwz := hwz.size
          obtain ⟨avwz, cvwz, rfl⟩ := own_slice ho'
          have HOwz : Hid (wz.ownsRow wb.heap.size 3 1 (.slice avwz (acc.length + 1) cvwz) (acc.length + 1) (cellsOf acc ++ [.int .i64 (y : Int)])) := ho'
          clear ho' hg')
        go_roundw
        case rel =>
          refine WantInv.mk (k + 1) (acc ++ [sh q y]) false (by omega) (by go_num) rfl hwz ?_ ?_
          · have e : cellsOf (acc ++ [sh q y]) = cellsOf acc ++ [.int .i64 (y : Int)] := by
              rw [hsh]
              simp [cellsOf]
            rw [e, List.length_append, List.length_singleton]
    
            exact HOwz.out
          · rw [← HW.out]; simp
        case measure => simp [intOf]; omega
    · have hgt1 : Op.bytesLess s.toList nmv.toList = false := by
        have h := HG.out
        generalize Op.bytesLess s.toList nmv.toList = A at *
        cases A <;> simp_all
      have hgt2 : (s.toList == nmv.toList) = false := by
        have h := HG.out
        generalize (s.toList == nmv.toList) = B at *
        cases B <;> simp_all
      have hW : acc ++ q :: sh q y :: wantL (fun x => decide (nmv.toList < (nm names x).toList)) q true (ds.drop (k + 1)) = es := by simpa using he
      have HW : Hid (acc ++ q :: sh q y :: wantL (fun x => decide (nmv.toList < (nm names x).toList)) q true (ds.drop (k + 1)) = es) := hW
      clear hW
      clear he HG
      by_cases hyq : q ≤ y
      · have hy1 : (q : Int) ≤ y := by omega
        have hsh : sh q y = y + 1 := by unfold sh; rw [if_pos hyq]
        go_wp2_with (first
          | (
          refine wpList_append_own _ rfl _ _ 26 rfl wb.heap.size 3 i3 (.int .i64 0) 1 8 Try.underlying26 (by kernel_rfl) (by kernel_rfl) (by kernel_rfl) (by kernel_rfl) rfl (by omega) _ _ _ rfl (HO.out.alloc _) ⟨wr.heap.size, 0, none⟩ 1 1 [.int .i64 (q : Int)] rfl rfl (by
            intro t u hu
            cases t with
            | zero => simp at hu; subst hu; rw [Addr.add_mid, World.cell?_alloc_new]; rfl
            | succ t => simp at hu) (by simp [Value.oneCell']) (by unfold maxLen; omega) (by omega) (by simp; omega) ?_
          rintro v' wy ho' hg' _
          have hwy : Below wb.heap.size wb wy := below_grown (hwr.alloc hwr.size _) hg' (by have := hwr.size; simp; omega) (fun k hk => (HO.out.lt k hk).1)
          have zwy := hwy.size
          obtain ⟨avwy, cvwy, rfl⟩ := own_slice ho'
          have HOwy : Hid (wy.ownsRow wb.heap.size 3 1 (.slice avwy (acc.length + 1) cvwy) (acc.length + 1) (cellsOf acc ++ [.int .i64 (q : Int)])) := ho'
          have dy : wy.cell? ⟨db, k, none⟩ = some (.int .i64 (y : Int)) := by rw [hwy.cell (World.block_lt_of_cell? _ _ K1.out)]; exact K1.out
          clear ho' hg')
          | (
          refine wpList_append_own _ rfl _ _ 26 rfl wb.heap.size 3 i3 (.int .i64 0) 1 8 Try.underlying26 (by kernel_rfl) (by kernel_rfl) (by kernel_rfl) (by kernel_rfl) rfl (by omega) _ _ _ rfl (HOwy.out.alloc _) ⟨wy.heap.size, 0, none⟩ 1 1 [.int .i64 ((y : Int) + 1)] rfl rfl (by
            intro t u hu
            cases t with
            | zero => simp at hu; subst hu; rw [Addr.add_mid, World.cell?_alloc_new]; rfl
            | succ t => simp at hu) (by simp [Value.oneCell']) (by unfold maxLen; omega) (by omega) (by simp; omega) ?_
          rintro v' wz ho' hg' _
          have hwz : Below wb.heap.size wb wz := below_grown (hwy.alloc hwy.size _) hg' (by have := hwy.size; simp; omega) (fun k hk => (HOwy.out.lt k hk).1)
          have zwz := hwz.size
          obtain ⟨avwz, cvwz, rfl⟩ := own_slice ho'
          have HOwz : Hid (wz.ownsRow wb.heap.size 3 1 (.slice avwz ((acc.length + 1) + 1) cvwz) ((acc.length + 1) + 1) ((cellsOf acc ++ [.int .i64 (q : Int)]) ++ [.int .i64 ((y : Int) + 1)])) := ho'
          clear ho' hg'))
        go_roundw
        case rel =>
          refine WantInv.mk (k + 1) ((acc ++ [q]) ++ [sh q y]) true (by omega) (by go_num) rfl hwz ?_ ?_
          · have e : cellsOf ((acc ++ [q]) ++ [sh q y]) = (cellsOf acc ++ [.int .i64 (q : Int)]) ++ [.int .i64 ((y : Int) + 1)] := by
              rw [hsh]
              simp [cellsOf]
            rw [e, List.length_append, List.length_singleton]
            rw [List.length_append, List.length_singleton]
            exact HOwz.out
          · rw [← HW.out]; simp
        case measure => simp [intOf]; omega
      · have hy1 : (y : Int) < q := by omega
        have hsh : sh q y = y := by unfold sh; rw [if_neg hyq]
        go_wp2_with (first
          | (
          refine wpList_append_own _ rfl _ _ 26 rfl wb.heap.size 3 i3 (.int .i64 0) 1 8 Try.underlying26 (by kernel_rfl) (by kernel_rfl) (by kernel_rfl) (by kernel_rfl) rfl (by omega) _ _ _ rfl (HO.out.alloc _) ⟨wr.heap.size, 0, none⟩ 1 1 [.int .i64 (q : Int)] rfl rfl (by
            intro t u hu
            cases t with
            | zero => simp at hu; subst hu; rw [Addr.add_mid, World.cell?_alloc_new]; rfl
            | succ t => simp at hu) (by simp [Value.oneCell']) (by unfold maxLen; omega) (by omega) (by simp; omega) ?_
          rintro v' wy ho' hg' _
          have hwy : Below wb.heap.size wb wy := below_grown (hwr.alloc hwr.size _) hg' (by have := hwr.size; simp; omega) (fun k hk => (HO.out.lt k hk).1)
          have zwy := hwy.size
          obtain ⟨avwy, cvwy, rfl⟩ := own_slice ho'
          have HOwy : Hid (wy.ownsRow wb.heap.size 3 1 (.slice avwy (acc.length + 1) cvwy) (acc.length + 1) (cellsOf acc ++ [.int .i64 (q : Int)])) := ho'
          have dy : wy.cell? ⟨db, k, none⟩ = some (.int .i64 (y : Int)) := by rw [hwy.cell (World.block_lt_of_cell? _ _ K1.out)]; exact K1.out
          clear ho' hg')
          | (
          refine wpList_append_own _ rfl _ _ 26 rfl wb.heap.size 3 i3 (.int .i64 0) 1 8 Try.underlying26 (by kernel_rfl) (by kernel_rfl) (by kernel_rfl) (by kernel_rfl) rfl (by omega) _ _ _ rfl (HOwy.out.alloc _) ⟨wy.heap.size, 0, none⟩ 1 1 [.int .i64 (y : Int)] rfl rfl (by
            intro t u hu
            cases t with
            | zero => simp at hu; subst hu; rw [Addr.add_mid, World.cell?_alloc_new]; rfl
            | succ t => simp at hu) (by simp [Value.oneCell']) (by unfold maxLen; omega) (by omega) (by simp; omega) ?_
          rintro v' wz ho' hg' _
          have hwz : Below wb.heap.size wb wz := below_grown (hwy.alloc hwy.size _) hg' (by have := hwy.size; simp; omega) (fun k hk => (HOwy.out.lt k hk).1)
          have zwz := hwz.size
          obtain ⟨avwz, cvwz, rfl⟩ := own_slice ho'
          have HOwz : Hid (wz.ownsRow wb.heap.size 3 1 (.slice avwz ((acc.length + 1) + 1) cvwz) ((acc.length + 1) + 1) ((cellsOf acc ++ [.int .i64 (q : Int)]) ++ [.int .i64 (y : Int)])) := ho'
          clear ho' hg'))
        go_roundw
        case rel =>
          refine WantInv.mk (k + 1) ((acc ++ [q]) ++ [sh q y]) true (by omega) (by go_num) rfl hwz ?_ ?_
          · have e : cellsOf ((acc ++ [q]) ++ [sh q y]) = (cellsOf acc ++ [.int .i64 (q : Int)]) ++ [.int .i64 (y : Int)] := by
              rw [hsh]
              simp [cellsOf]
            rw [e, List.length_append, List.length_singleton]
            rw [List.length_append, List.length_singleton]
            exact HOwz.out
          · rw [← HW.out]; simp
        case measure => simp [intOf]; omega
  · have hW : acc ++ sh q y :: wantL (fun x => decide (nmv.toList < (nm names x).toList)) q true (ds.drop (k + 1)) = es := by simpa using he
    have HW : Hid (acc ++ sh q y :: wantL (fun x => decide (nmv.toList < (nm names x).toList)) q true (ds.drop (k + 1)) = es) := hW
    clear hW
    clear he HG
    by_cases hyq : q ≤ y
    · have hy1 : (q : Int) ≤ y := by omega
      have hsh : sh q y = y + 1 := by unfold sh; rw [if_pos hyq]
      go_wp2_with (
        refine wpList_append_own _ rfl _ _ 26 rfl wb.heap.size 3 i3 (.int .i64 0) 1 8 Try.underlying26 (by kernel_rfl) (by kernel_rfl) (by kernel_rfl) (by kernel_rfl) rfl (by omega) _ _ _ rfl (HO.out.alloc _) ⟨wr.heap.size, 0, none⟩ 1 1 [.int .i64 ((y : Int) + 1)] rfl rfl (by
          intro t u hu
          cases t with
          | zero => simp at hu; subst hu; rw [Addr.add_mid, World.cell?_alloc_new]; rfl
          | succ t => simp at hu) (by simp [Value.oneCell']) (by unfold maxLen; omega) (by omega) (by simp; omega) ?_
        rintro v' wz ho' hg' _
        have hwz : Below wb.heap.size wb wz := below_grown (hwr.alloc hwr.size _) hg' (by have := hwr.size; simp; omega) (fun k hk => (HO.out.lt k hk).1)
        have zwz := hwz.size
        obtain ⟨avwz, cvwz, rfl⟩ := own_slice ho'
        have HOwz : Hid (wz.ownsRow wb.heap.size 3 1 (.slice avwz (acc.length + 1) cvwz) (acc.length + 1) (cellsOf acc ++ [.int .i64 ((y : Int) + 1)])) := ho'
        clear ho' hg')
      go_roundw
      case rel =>
        refine WantInv.mk (k + 1) (acc ++ [sh q y]) true (by omega) (by go_num) rfl hwz ?_ ?_
        · have e : cellsOf (acc ++ [sh q y]) = cellsOf acc ++ [.int .i64 ((y : Int) + 1)] := by
            rw [hsh]
            simp [cellsOf]
          rw [e, List.length_append, List.length_singleton]
    
          exact HOwz.out
        · rw [← HW.out]; simp
      case measure => simp [intOf]; omega
    · have hy1 : (y : Int) < q := by omega
      have hsh : sh q y = y := by unfold sh; rw [if_neg hyq]
      go_wp2_with (
        refine wpList_append_own _ rfl _ _ 26 rfl wb.heap.size 3 i3 (.int .i64 0) 1 8 Try.underlying26 (by kernel_rfl) (by kernel_rfl) (by kernel_rfl) (by kernel_rfl) rfl (by omega) _ _ _ rfl (HO.out.alloc _) ⟨wr.heap.size, 0, none⟩ 1 1 [.int .i64 (y : Int)] rfl rfl (by
          intro t u hu
          cases t with
          | zero => simp at hu; subst hu; rw [Addr.add_mid, World.cell?_alloc_new]; rfl
          | succ t => simp at hu) (by simp [Value.oneCell']) (by unfold maxLen; omega) (by omega) (by simp; omega) ?_
        rintro v' wz ho' hg' _
        have hwz : Below wb.heap.size wb wz := below_grown (hwr.alloc hwr.size _) hg' (by have := hwr.size; simp; omega) (fun k hk => (HO.out.lt k hk).1)
        have zwz := hwz.size
        obtain ⟨avwz, cvwz, rfl⟩ := own_slice ho'
        have HOwz : Hid (wz.ownsRow wb.heap.size 3 1 (.slice avwz (acc.length + 1) cvwz) (acc.length + 1) (cellsOf acc ++ [.int .i64 (y : Int)])) := ho'
        clear ho' hg')
      go_roundw
      case rel =>
        refine WantInv.mk (k + 1) (acc ++ [sh q y]) true (by omega) (by go_num) rfl hwz ?_ ?_
        · have e : cellsOf (acc ++ [sh q y]) = cellsOf acc ++ [.int .i64 (y : Int)] := by
            rw [hsh]
            simp [cellsOf]
          rw [e, List.length_append, List.length_singleton]
    
          exact HOwz.out
        · rw [← HW.out]; simp
      case measure => simp [intOf]; omega

end Go.Proofs.Qxb6615116a

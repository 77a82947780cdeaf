import Derived.Test.YbulkdkveCTail
namespace Go.Proofs.Ybulkdkve.lawS5594CWhole
open Go.RowKit Go.Deep
set_option linter.unusedVariables false
set_option linter.unusedSimpArgs false

set_option maxRecDepth 100000 in
set_option maxHeartbeats 4000000 in
theorem tail34_yes (u0 u2 u3 u4 u5 u7 u8 u9 u10 u11 u12 u13 u14 u15 u16 u17 u18 u19 u20 u29 u30 u31 u36 u37 u38 u39 u40 u41 u42 u43 u44 u45 u46 u47 u48 u49 u50 u51 u52 u53 u54 u55 u56 u57 u58 u59 u60 u61 u62 u63 u64 u65 u66 u67 u68 u69 u70 u71 u72 u73 u74 u75 u76 u77 u78 u79 u80 u81 u82 u83 u84 u85 u86 u87 u88 u89 u90 u91 u92 u93 u94 u95 u96 u97 u98 u99 u100 u101 u102 u103 u104 u105 u106 u107 u108 u109 u110 u111 u112 u113 u114 u115 u116 u117 u118 u119 u120 u121 u122 u123 u124 u125 u126 u127 u128 u129 u130 u131 u132 u133 u134 u135 u136 u137 u138 u139 u140 u141 u142 u143 u144 u145 u146 u147 u148 u149 u150 u151 u152 u153 u154 u155 u156 u157 u158 u159 u160 u161 u162 u163 u164 u165 u166 u167 u168 u169 u170 u171 u172 u173 u174 u175 u176 u177 u178 u179 u180 u181 u182 u183 u184 u185 u186 u187 u188 u189 u190 u191 u192 u193 u194 u195 u196 u197 u198 u199 u200 u201 u202 u203 u204 u205 u206 u207 u208 u209 u210 u211 u212 u213 u214 u215 u216 u217 u218 u219 u220 u221 u222 u223 u224 u225 u226 u227 u228 u229 u230 u231 u232 u233 u234 u235 u236 u237 u238 u239 u240 u241 u242 u243 u244 u245 u246 u247 u248 u249 u250 u251 u252 u253 u254 u255 u256 u257 u258 u259 u260 u261 u262 u263 u264 u265 u266 u267 u268 u269 u270 u271 u272 u273 u274 u275 u276 u277 u278 u279 u280 u281 u282 u283 u284 u285 u286 u287 u288 u289 u290 u291 u292 u293 u294 u295 u296 u297 u298 u299 u300 u301 u302 u303 u304 u305 u306 u307 u308 u309 u310 u311 u312 u313 u314 u315 u316 u317 u318 u319 u320 u321 u322 u323 u324 u325 u326 u327 u328 u329 u330 u331 u332 u333 u334 u335 u336 u337 u338 u339 u340 u341 u342 u343 u344 u345 u346 u347 : Value) (nm : ByteArray) (pol : Int) (CL : Bool) (B k0 i0 mm f q p n k : Nat) (ao al : Option Addr) (c cl : Nat) (hs : List Hd) (ls : List Lk) (HS : List Hd) (LS : List Lk) (HC : Nat → Int) (w wx : World) (hw : w.heap.size = B) (hnb : n ≤ 70000) (hkb : k ≤ 70000) (hmm : 1 ≤ mm ∧ mm ≤ 3)
    (hM : MidR true B nm pol hs ls w f q p n k ao al c cl HS LS HC wx) :
    Code.wp Yba.prog (dropSeq 18 (Yba.f4.body.getD .skip)) (bodyPost Yba.prog Yba.f4 fun e w' => e = .returned (.bool true) ∧ Below w.heap.size w w') ⟨#[u0, .string nm, u2, u3, u4, u5, .bool true, u7, u8, u9, u10, u11, u12, u13, u14, u15, u16, u17, u18, u19, u20, .int .u8 pol, pt B, pt (B + 1), pt (B + 2), pt (B + 3), .int .u8 mm, .int .i64 k0, .int .i64 i0, u29, u30, u31, .int .u8 f, .int .i64 q, .int .i64 p, .bool CL, u36, u37, u38, u39, u40, u41, u42, u43, u44, u45, u46, u47, u48, u49, u50, u51, u52, u53, u54, u55, u56, u57, u58, u59, u60, u61, u62, u63, u64, u65, u66, u67, u68, u69, u70, u71, u72, u73, u74, u75, u76, u77, u78, u79, u80, u81, u82, u83, u84, u85, u86, u87, u88, u89, u90, u91, u92, u93, u94, u95, u96, u97, u98, u99, u100, u101, u102, u103, u104, u105, u106, u107, u108, u109, u110, u111, u112, u113, u114, u115, u116, u117, u118, u119, u120, u121, u122, u123, u124, u125, u126, u127, u128, u129, u130, u131, u132, u133, u134, u135, u136, u137, u138, u139, u140, u141, u142, u143, u144, u145, u146, u147, u148, u149, u150, u151, u152, u153, u154, u155, u156, u157, u158, u159, u160, u161, u162, u163, u164, u165, u166, u167, u168, u169, u170, u171, u172, u173, u174, u175, u176, u177, u178, u179, u180, u181, u182, u183, u184, u185, u186, u187, u188, u189, u190, u191, u192, u193, u194, u195, u196, u197, u198, u199, u200, u201, u202, u203, u204, u205, u206, u207, u208, u209, u210, u211, u212, u213, u214, u215, u216, u217, u218, u219, u220, u221, u222, u223, u224, u225, u226, u227, u228, u229, u230, u231, u232, u233, u234, u235, u236, u237, u238, u239, u240, u241, u242, u243, u244, u245, u246, u247, u248, u249, u250, u251, u252, u253, u254, u255, u256, u257, u258, u259, u260, u261, u262, u263, u264, u265, u266, u267, u268, u269, u270, u271, u272, u273, u274, u275, u276, u277, u278, u279, u280, u281, u282, u283, u284, u285, u286, u287, u288, u289, u290, u291, u292, u293, u294, u295, u296, u297, u298, u299, u300, u301, u302, u303, u304, u305, u306, u307, u308, u309, u310, u311, u312, u313, u314, u315, u316, u317, u318, u319, u320, u321, u322, u323, u324, u325, u326, u327, u328, u329, u330, u331, u332, u333, u334, u335, u336, u337, u338, u339, u340, u341, u342, u343, u344, u345, u346, u347], []⟩ wx := by
  have HW : Hid (w.heap.size = B) := hw
  clear hw
  have c5 := hM.st.sys.c5
  have lo := hM.st.sys.lo
  rw [hM.hk] at lo
  have ho := hM.st.sys.ho
  rw [hM.hn] at ho
  conv => arg 2; whnf
  go_wp2_with fail
  refine (cloneL_any k cl (B + 4) LS _ hM.k0 hM.hk (by omega) lo).mono ?_
  rintro e w4 ⟨al4, cl4, rfl, lb4, hch4⟩
  have S4 := hM.st.more hch4
  have c3 := S4.sys.c3
  have ho4 := hch4.own ho (by simp)
  clear c5 lo
  go_wp2_with fail
  refine (cloneH_any n c (B + 4) HS _ hM.h0 hM.hn (by omega) ho4).mono ?_
  rintro e w5 ⟨al5, cl5, rfl, hb5, hch5⟩
  have S5 := S4.more hch5
  have d0 : w5.cell? ⟨B + 3, 8, none⟩ = some (.int .i64 (HC 0)) := S5.sys.cnt (m := 0) (by omega)
  have d1 : w5.cell? ⟨B + 3, 9, none⟩ = some (.int .i64 (HC 1)) := S5.sys.cnt (m := 1) (by omega)
  have d2 : w5.cell? ⟨B + 3, 10, none⟩ = some (.int .i64 (HC 2)) := S5.sys.cnt (m := 2) (by omega)
  have d3 : w5.cell? ⟨B + 3, 11, none⟩ = some (.int .i64 (HC 3)) := S5.sys.cnt (m := 3) (by omega)
  clear c3 ho4 ho
  go_wp2_with fail
  have hch6 : Chg [] w5 (w5.alloc (.cells #[.int .i64 (HC 0), .int .i64 (HC 1), .int .i64 (HC 2), .int .i64 (HC 3)] 83)) := (Chg.refl [] w5).alloc _
  have cb6 : (w5.alloc (.cells #[.int .i64 (HC 0), .int .i64 (HC 1), .int .i64 (HC 2), .int .i64 (HC 3)] 83)).rowIs w5.heap.size 83 4 (fun j => .int .i64 (HC j)) := World.rowIs_alloc w5 #[.int .i64 (HC 0), .int .i64 (HC 1), .int .i64 (HC 2), .int .i64 (HC 3)] 83 _ (by
    intro j hj
    match j, hj with
    | 0, _ | 1, _ | 2, _ | 3, _ => rfl)
  refine (mid_promote (a3 := CL) (m := mm) hM ((hch4.trans hch5).trans hch6) (by omega) (by omega) (by omega)).mono ?_
  rintro e w7 ⟨rfl, hD⟩
  obtain ⟨hbk, hhb⟩ : ∃ hbk, hbk = w5.heap.size := ⟨_, rfl⟩
  rw [← hhb] at cb6 ⊢
  rw [← hM.hk] at lb4
  rw [← hM.hn] at hb5
  obtain ⟨g', c', gl', cl', gL, cL, A⟩ := aft_of_done hM.st.sys hM.st.bel hM.st.size hch4 hch5 hch6 lb4 hb5 hhb cb6 hD
  obtain ⟨y1, y2, y3, y4, y5, y6⟩ := hM.yes rfl
  have hn := hM.hn
  have hk := hM.hk
  rw [hM.hk] at A
  clear hD lb4 hb5 cb6 hch4 hch5 hch6 S4 S5 d0 d1 d2 d3 hhb
  have hn1 : n = hs.length + 1 := by rw [← hn, y5, ins_length _ _ _ y4]
  have hk1 : k = ls.length + 1 := by rw [← hk, y6, ins_length _ _ _ y3]
  obtain ⟨gC, rfl⟩ : ∃ gC, al5 = some ⟨gC, 0, none⟩ := by
    have hb := A.hb
    obtain ⟨g, c', e, _⟩ := hb.form (by omega)
    injection e with e1
    exact ⟨g, e1⟩
  obtain ⟨gB, rfl⟩ : ∃ gB, al4 = some ⟨gB, 0, none⟩ := by
    have hb := A.lb
    obtain ⟨g, c', e, _⟩ := hb.form (by omega)
    injection e with e1
    exact ⟨g, e1⟩
  rw [List.length_set, hn] at A
  have hp1 : p < HS.length := by omega
  have hxp : HS[p] = ⟨B + 2, f, q⟩ := by
    have := ins_at hs ⟨B + 2, (f : Int), (q : Int)⟩ p y4
    subst y5
    exact this
  have HA : Hid (Aft B nm mm w hbk g' c' n gl' cl' k (HS.set p ⟨B + 2, mm, q⟩) LS (upd (upd HC f (HC f - 1)) mm (upd HC f (HC f - 1) mm + 1)) (.slice (some ⟨gB, 0, none⟩) k cl4) (.slice (some ⟨gC, 0, none⟩) n cl5) LS HS HC gL cL w7) := A
  have HN : Hid (HS.length = n ∧ HS[p] = ⟨B + 2, f, q⟩) := ⟨hn, hxp⟩
  have hbd := hM.st.cnt
  have hk00 : 0 < k := by omega
  have hn00 : 0 < n := by omega
  clear A hM hxp hn hk y5 y6 hn1 hk1
  go_upto_if 213 with fail
  go_cut [36, 37] (fun s36 s37 wz => ∃ (gB' cB gC' cC : Nat) (HS' : List Hd) (HC' : Nat → Int), s36 = .slice (some ⟨gB', 0, none⟩) k cB ∧ s37 = .slice (some ⟨gC', 0, none⟩) n cC ∧ 0 < n ∧ 0 < k ∧ Aft B nm mm w hbk g' c' n gl' cl' k HS' LS HC' (.slice (some ⟨gB', 0, none⟩) k cB) (.slice (some ⟨gC', 0, none⟩) n cC) LS HS' HC' gL cL wz)
  case first =>
    have hcm := (HA.out.sys.hfro (by rw [List.length_set]; exact HN.out.1) 0)
    have hb := HA.out.hb
    rw [HN.out.1] at hb
    have k1 : w7.cell? ⟨gC, p * 4 + 1, none⟩ = some (.int .u8 f) := by
      rw [hb.cellAt (p * 4 + 1) (by have := HN.out.1; omega), flat_get encH_len HS hp1 (show 1 < 4 by omega), HN.out.2]
      rfl
    have f1 := hb.frozenAt (p * 4 + 1)
    have hpn : (p : Int) < (n : Int) := by have := HN.out.1; omega
    have A1 := HA.out.setM HN.out.1 hp1 (mm : Int)
    clear hcm hb
    go_upto_region 40 with fail
    generalize (w7.setCell ⟨gC, p * 4 + 1, none⟩ (.int .u8 mm)) = W8 at *
    clear k1 f1
    have k2 := A1.cb.cell (i := f) (by omega)
    have f2 := A1.cb.frozen f
    have A2 := A1.setC f (HC f - 1)
    obtain ⟨b1, b2⟩ := hbd f
    obtain ⟨b3, b4⟩ := hbd mm
    clear hbd
    go_upto_region 41 with fail
    generalize (W8.setCell ⟨hbk, f, none⟩ (.int .i64 (HC f - 1))) = W9 at *
    clear k2 f2 A1
    have k3 := A2.cb.cell (i := mm) (by omega)
    have f3 := A2.cb.frozen mm
    have b5 : -1 ≤ upd HC f (HC f - 1) mm := by unfold upd; split <;> omega
    have b6 : upd HC f (HC f - 1) mm ≤ 100000 := by unfold upd; split <;> omega
    have A3 := A2.setC mm (upd HC f (HC f - 1) mm + 1)
    clear A2
    generalize upd HC f (HC f - 1) mm = X at *
    go_wp2_with fail
    go_meet
    case rel =>
      have e1 : HS.set p ⟨HS[p].b, mm, HS[p].l⟩ = HS.set p ⟨B + 2, mm, q⟩ := by rw [HN.out.2]
      rw [e1] at A3
      exact ⟨gB, cl4, gC, cl5, _, _, rfl, rfl, hn00, hk00, A3⟩
  case rest =>
    obtain ⟨gB', cB, gC', cC, HS', HC', rfl, rfl, hn0, hk0, A⟩ := hcut
    apply_assumption
    exact tail50 _ _ _ _ _ _ _ _ _ _ _ _ _ _ _ _ _ _ _ _ _ _ _ _ _ _ _ _ _ _ _ _ _ _ _ _ _ _ _ _ _ _ _ _ _ _ _ _ _ _ _ _ _ _ _ _ _ _ _ _ _ _ _ _ _ _ _ _ _ _ _ _ _ _ _ _ _ _ _ _ _ _ _ _ _ _ _ _ _ _ _ _ _ _ _ _ _ _ _ _ _ _ _ _ _ _ _ _ _ _ _ _ _ _ _ _ _ _ _ _ _ _ _ _ _ _ _ _ _ _ _ _ _ _ _ _ _ _ _ _ _ _ _ _ _ _ _ _ _ _ _ _ _ _ _ _ _ _ _ _ _ _ _ _ _ _ _ _ _ _ _ _ _ _ _ _ _ _ _ _ _ _ _ _ _ _ _ _ _ _ _ _ _ _ _ _ _ _ _ _ _ _ _ _ _ _ _ _ _ _ _ _ _ _ _ _ _ _ _ _ _ _ _ _ _ _ _ _ _ _ _ _ _ _ _ _ _ _ _ _ _ _ _ _ _ _ _ _ _ _ _ _ _ _ _ _ _ _ _ _ _ _ _ _ _ _ _ _ _ _ _ _ _ _ _ _ _ _ _ _ _ _ _ _ _ _ _ _ _ _ _ _ _ _ _ _ _ _ _ _ _ _ _ _ _ _ _ _ _ _ _ _ _ _ _ _ _ _ _ _ _ _ _ _ _ _ _ _ _ _ _ _ _ _ _ _ _ _ _ _ nm mm B hbk g' c' n gl' cl' k gB' cB gC' cC gL cL HS' LS HC' w wc HW.out hn0 hk0 (by omega) (by omega) A
end Go.Proofs.Ybulkdkve.lawS5594CWhole

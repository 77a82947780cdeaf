import Derived.Test.YbulkdkveCAft
namespace Go.Proofs.Ybulkdkve.lawS5594CWhole
open Go.RowKit Go.Deep
set_option linter.unusedVariables false
set_option linter.unusedSimpArgs false

/-- The code behind the first n statements. -/
def dropSeq : Nat → Code → Code
  | 0, c => c
  | n + 1, .seq _ b => dropSeq n b
  | _ + 1, c => c

/-- Two arrays of four ints that are the same. -/
theorem same83 (a b c d : Int) (w : World) : (binOp .neq 83 (.agg #[.int .i64 a, .int .i64 b, .int .i64 c, .int .i64 d]) (.agg #[.int .i64 a, .int .i64 b, .int .i64 c, .int .i64 d])).run Yba.prog w = .ok (.bool false) w := by
  have h : ∀ e, (Op.equalIn (e + 2) 83 (.agg #[.int .i64 a, .int .i64 b, .int .i64 c, .int .i64 d]) (.agg #[.int .i64 a, .int .i64 b, .int .i64 c, .int .i64 d])).run Yba.prog w = .ok true w := by
    intro e
    obtain ⟨i, hi⟩ : ∃ i, Yba.prog.info? 3 = some i := by
      cases h : Yba.prog.info? 3 with
      | some i => exact ⟨i, rfl⟩
      | none =>
        have : (Yba.prog.info? 3).isSome = true := by kernel_rfl
        rw [h] at this
        cases this
    have h1 : Yba.prog.cellsOf 3 = 1 := by kernel_rfl
    rw [run_equalIn_array w (e + 1) _ _ Yba.underlying83 hi, h1]
    simp [List.range_succ, Op.eqItems, Op.equalIn, run_underlying Yba.underlying3, go_sem]
  simp only [binOp]
  simp [Op.equal, Op.maxDepth, h 9998]

set_option maxRecDepth 100000 in
set_option maxHeartbeats 4000000 in
theorem tail50 (u0 u2 u3 u4 u5 u6 u7 u8 u9 u10 u11 u12 u13 u14 u15 u16 u17 u18 u19 u20 u21 u23 u27 u28 u29 u30 u31 u32 u33 u34 u35 u39 u40 u41 u42 u43 u44 u45 u46 u47 u48 u49 u50 u51 u52 u53 u54 u55 u56 u57 u58 u59 u60 u61 u62 u63 u64 u65 u66 u67 u68 u69 u70 u71 u72 u73 u74 u75 u76 u77 u78 u79 u80 u81 u82 u83 u84 u85 u86 u87 u88 u89 u90 u91 u92 u93 u94 u95 u96 u97 u98 u99 u100 u101 u102 u103 u104 u105 u106 u107 u108 u109 u110 u111 u112 u113 u114 u115 u116 u117 u118 u119 u120 u121 u122 u123 u124 u125 u126 u127 u128 u129 u130 u131 u132 u133 u134 u135 u136 u137 u138 u139 u140 u141 u142 u143 u144 u145 u146 u147 u148 u149 u150 u151 u152 u153 u154 u155 u156 u157 u158 u159 u160 u161 u162 u163 u164 u165 u166 u167 u168 u169 u170 u171 u172 u173 u174 u175 u176 u177 u178 u179 u180 u181 u182 u183 u184 u185 u186 u187 u188 u189 u190 u191 u192 u193 u194 u195 u196 u197 u198 u199 u200 u201 u202 u203 u204 u205 u206 u207 u208 u209 u210 u211 u212 u213 u214 u215 u216 u217 u218 u219 u220 u221 u222 u223 u224 u225 u226 u227 u228 u229 u230 u231 u232 u233 u234 u235 u236 u237 u238 u239 u240 u241 u242 u243 u244 u245 u246 u247 u248 u249 u250 u251 u252 u253 u254 u255 u256 u257 u258 u259 u260 u261 u262 u263 u264 u265 u266 u267 u268 u269 u270 u271 u272 u273 u274 u275 u276 u277 u278 u279 u280 u281 u282 u283 u284 u285 u286 u287 u288 u289 u290 u291 u292 u293 u294 u295 u296 u297 u298 u299 u300 u301 u302 u303 u304 u305 u306 u307 u308 u309 u310 u311 u312 u313 u314 u315 u316 u317 u318 u319 u320 u321 u322 u323 u324 u325 u326 u327 u328 u329 u330 u331 u332 u333 u334 u335 u336 u337 u338 u339 u340 u341 u342 u343 u344 u345 u346 u347 : Value) (nm : ByteArray) (mm : Int) (B hbk g' c' n gl' cl' k gB cB gC cC gL cL : Nat) (HS : List Hd) (LS : List Lk) (HC : Nat → Int) (w wx : World) (hw : w.heap.size = B) (hn0 : 0 < n) (hk0 : 0 < k) (hnb : n ≤ 100000) (hkb : k ≤ 100000)
    (a : Aft B nm mm w hbk g' c' n gl' cl' k HS LS HC (.slice (some ⟨gB, 0, none⟩) k cB) (.slice (some ⟨gC, 0, none⟩) n cC) LS HS HC gL cL wx) :
    Code.wp Yba.prog (dropSeq 23 (Yba.f4.body.getD .skip)) (bodyPost Yba.prog Yba.f4 fun e w' => e = .returned (.bool true) ∧ Below w.heap.size w w') ⟨#[u0, .string nm, u2, u3, u4, u5, u6, u7, u8, u9, u10, u11, u12, u13, u14, u15, u16, u17, u18, u19, u20, u21, pt B, u23, pt (B + 2), pt (B + 3), .int .u8 mm, u27, u28, u29, u30, u31, u32, u33, u34, u35, .slice (some ⟨gB, 0, none⟩) k cB, .slice (some ⟨gC, 0, none⟩) n cC, pt hbk, u39, u40, u41, u42, u43, u44, u45, u46, u47, u48, u49, u50, u51, u52, u53, u54, u55, u56, u57, u58, u59, u60, u61, u62, u63, u64, u65, u66, u67, u68, u69, u70, u71, u72, u73, u74, u75, u76, u77, u78, u79, u80, u81, u82, u83, u84, u85, u86, u87, u88, u89, u90, u91, u92, u93, u94, u95, u96, u97, u98, u99, u100, u101, u102, u103, u104, u105, u106, u107, u108, u109, u110, u111, u112, u113, u114, u115, u116, u117, u118, u119, u120, u121, u122, u123, u124, u125, u126, u127, u128, u129, u130, u131, u132, u133, u134, u135, u136, u137, u138, u139, u140, u141, u142, u143, u144, u145, u146, u147, u148, u149, u150, u151, u152, u153, u154, u155, u156, u157, u158, u159, u160, u161, u162, u163, u164, u165, u166, u167, u168, u169, u170, u171, u172, u173, u174, u175, u176, u177, u178, u179, u180, u181, u182, u183, u184, u185, u186, u187, u188, u189, u190, u191, u192, u193, u194, u195, u196, u197, u198, u199, u200, u201, u202, u203, u204, u205, u206, u207, u208, u209, u210, u211, u212, u213, u214, u215, u216, u217, u218, u219, u220, u221, u222, u223, u224, u225, u226, u227, u228, u229, u230, u231, u232, u233, u234, u235, u236, u237, u238, u239, u240, u241, u242, u243, u244, u245, u246, u247, u248, u249, u250, u251, u252, u253, u254, u255, u256, u257, u258, u259, u260, u261, u262, u263, u264, u265, u266, u267, u268, u269, u270, u271, u272, u273, u274, u275, u276, u277, u278, u279, u280, u281, u282, u283, u284, u285, u286, u287, u288, u289, u290, u291, u292, u293, u294, u295, u296, u297, u298, u299, u300, u301, u302, u303, u304, u305, u306, u307, u308, u309, u310, u311, u312, u313, u314, u315, u316, u317, u318, u319, u320, u321, u322, u323, u324, u325, u326, u327, u328, u329, u330, u331, u332, u333, u334, u335, u336, u337, u338, u339, u340, u341, u342, u343, u344, u345, u346, u347], []⟩ wx := by
  have c5 := a.sys.c5
  have c3 := a.sys.c3
  have d0 : wx.cell? ⟨B + 3, 8, none⟩ = some (.int .i64 (HC 0)) := a.sys.cnt (m := 0) (by omega)
  have d1 : wx.cell? ⟨B + 3, 9, none⟩ = some (.int .i64 (HC 1)) := a.sys.cnt (m := 1) (by omega)
  have d2 : wx.cell? ⟨B + 3, 10, none⟩ = some (.int .i64 (HC 2)) := a.sys.cnt (m := 2) (by omega)
  have d3 : wx.cell? ⟨B + 3, 11, none⟩ = some (.int .i64 (HC 3)) := a.sys.cnt (m := 3) (by omega)
  have e0 := a.cb.cell (i := 0) (by omega)
  have e1 := a.cb.cell (i := 1) (by omega)
  have e2 := a.cb.cell (i := 2) (by omega)
  have e3 := a.cb.cell (i := 3) (by omega)
  have h83 := same83 (HC 0) (HC 1) (HC 2) (HC 3)
  obtain ⟨i80, hi80, _⟩ := Option.map_eq_some_iff.1 info80
  have p28 : ∀ W, (binOp .eql 28 (pt (B + 2)) (pt (B + 2))).run Yba.prog W = .ok (.bool true) W := fun W => run_eql_ptr_same W ⟨B + 2, 0, none⟩ Yba.underlying28 hi80
  have hpn : ∀ W, (Op.equalIn 9999 28 (.pointer none) (.pointer none)).run Yba.prog W = .ok true W := fun W => run_equalIn_pointer_nil (P := Yba.prog) W 9998 28 none Yba.underlying28
  have hnl41 := fun (w : World) (a : Option Addr) (n c : Nat) => Lib.run_eql_slice_nil (P := Yba.prog) w 41 _ a n c 0 0 Yba.underlying41
  have HW : Hid (w.heap.size = B) := hw
  have lo := a.sys.lo
  rw [a.hk] at lo
  have ho := a.sys.ho
  rw [a.hn] at ho
  have lb := a.lb
  rw [a.hk] at lb
  have hb := a.hb
  rw [a.hn] at hb
  clear hw
  conv => arg 2; whnf
  go_wp2_with fail
  go_quiet ((first | (go_at_call 13; go_must (exact Calls.quiet_of (equalL gl' gB k cl' cB (B + 4) (B + 4) LS _ hk0 hkb a.hk (by exact lo) (by exact lb)))) | (go_at_call 14; go_must (exact Calls.quiet_of (equalH g' gC n c' cC (B + 4) (B + 4) HS _ hn0 hnb a.hn (by exact ho) (by exact hb))))))
  have a2 := a.more ((Chg.refl [] wx).drewN nq)
  clear c5 c3 d0 d1 d2 d3 e0 e1 e2 e3 lo ho lb hb h83 a
  generalize wx.drewN nq = wy at *
  have c11 := a2.sys.c11
  have c0 := a2.sys.c0
  have l0 := a2.log.cell (i := 0) (by omega)
  have v0 : wy.cell? ⟨gL, 0, none⟩ = some (.int .u8 1) := a2.ev.cellAt 0 (by omega)
  have v1 : wy.cell? ⟨gL, 1, none⟩ = some (pt (B + 2)) := a2.ev.cellAt 1 (by omega)
  have v2 : wy.cell? ⟨gL, 2, none⟩ = some (.string nm) := a2.ev.cellAt 2 (by omega)
  have v3 : wy.cell? ⟨gL, 3, none⟩ = some (.string ⟨#[]⟩) := a2.ev.cellAt 3 (by omega)
  have v4 : wy.cell? ⟨gL, 4, none⟩ = some (.int .u8 mm) := a2.ev.cellAt 4 (by omega)
  have v5 : wy.cell? ⟨gL, 5, none⟩ = some (.slice none 0 0) := a2.ev.cellAt 5 (by omega)
  have v6 : wy.cell? ⟨gL, 6, none⟩ = some (.int .u8 0) := a2.ev.cellAt 6 (by omega)
  have v7 : wy.cell? ⟨gL, 7, none⟩ = some (.int .u8 0) := a2.ev.cellAt 7 (by omega)
  have v8 : wy.cell? ⟨gL, 8, none⟩ = some (.pointer none) := a2.ev.cellAt 8 (by omega)
  have v9 : wy.cell? ⟨gL, 9, none⟩ = some (.int .i64 0) := a2.ev.cellAt 9 (by omega)
  have v10 : wy.cell? ⟨gL, 10, none⟩ = some (.int .u64 0) := a2.ev.cellAt 10 (by omega)
  have HW2 : Hid (Below B w wy) := a2.bel
  clear a2
  go_wp2_with fail
  go_ret
  refine ⟨rfl, ?_⟩
  rw [HW.out]
  exact HW2.out.alloc (by have := HW2.out.size; have := HW.out; omega) _
end Go.Proofs.Ybulkdkve.lawS5594CWhole

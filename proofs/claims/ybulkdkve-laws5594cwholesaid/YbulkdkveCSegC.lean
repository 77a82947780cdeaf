import Derived.Test.YbulkdkveCTailY
import Derived.Test.YbulkdkveCTailN
namespace Go.Proofs.Ybulkdkve.lawS5594CWhole
open Go.RowKit Go.Deep
set_option linter.unusedVariables false
set_option linter.unusedSimpArgs false

set_option maxRecDepth 100000 in
set_option maxHeartbeats 4000000 in
theorem segC (u0 u2 u4 u5 u7 u8 u9 u10 u11 u12 u13 u14 u15 u16 u17 u18 u19 u20 u29 u30 u31 u35 u36 u37 u38 u39 u40 u41 u42 u43 u44 u45 u46 u47 u48 u49 u50 u51 u52 u53 u54 u55 u56 u57 u58 u59 u60 u61 u62 u63 u64 u65 u66 u67 u68 u69 u70 u71 u72 u73 u74 u75 u76 u77 u78 u79 u80 u81 u82 u83 u84 u85 u86 u87 u88 u89 u90 u91 u92 u93 u94 u95 u96 u97 u98 u99 u100 u101 u102 u103 u104 u105 u106 u107 u108 u109 u110 u111 u112 u113 u114 u115 u116 u117 u118 u119 u120 u121 u122 u123 u124 u125 u126 u127 u128 u129 u130 u131 u132 u133 u134 u135 u136 u137 u138 u139 u140 u141 u142 u143 u144 u145 u146 u147 u148 u149 u150 u151 u152 u153 u154 u155 u156 u157 u158 u159 u160 u161 u162 u163 u164 u165 u166 u167 u168 u169 u170 u171 u172 u173 u174 u175 u176 u177 u178 u179 u180 u181 u182 u183 u184 u185 u186 u187 u188 u189 u190 u191 u192 u193 u194 u195 u196 u197 u198 u199 u200 u201 u202 u203 u204 u205 u206 u207 u208 u209 u210 u211 u212 u213 u214 u215 u216 u217 u218 u219 u220 u221 u222 u223 u224 u225 u226 u227 u228 u229 u230 u231 u232 u233 u234 u235 u236 u237 u238 u239 u240 u241 u242 u243 u244 u245 u246 u247 u248 u249 u250 u251 u252 u253 u254 u255 u256 u257 u258 u259 u260 u261 u262 u263 u264 u265 u266 u267 u268 u269 u270 u271 u272 u273 u274 u275 u276 u277 u278 u279 u280 u281 u282 u283 u284 u285 u286 u287 u288 u289 u290 u291 u292 u293 u294 u295 u296 u297 u298 u299 u300 u301 u302 u303 u304 u305 u306 u307 u308 u309 u310 u311 u312 u313 u314 u315 u316 u317 u318 u319 u320 u321 u322 u323 u324 u325 u326 u327 u328 u329 u330 u331 u332 u333 u334 u335 u336 u337 u338 u339 u340 u341 u342 u343 u344 u345 u346 u347 : Value) (nm : ByteArray) (pol : Int) (a3 a6 : Bool) (B mm f q p n k : Nat) (ao al : Option Addr) (c cl : Nat) (hs : List Hd) (ls : List Lk) (HS : List Hd) (LS : List Lk) (HC : Nat → Int) (w wx : World) (hw : w.heap.size = B) (hnb : n ≤ 70000) (hkb : k ≤ 70000) (hmm : 1 ≤ mm ∧ mm ≤ 3) (hkl : ls.length ≤ 70000)
    (hM : MidR a6 B nm pol hs ls w f q p n k ao al c cl HS LS HC wx) :
    Code.wp Yba.prog (dropSeq 17 (Yba.f4.body.getD .skip)) (bodyPost Yba.prog Yba.f4 fun e w' => e = .returned (.bool true) ∧ Below w.heap.size w w') ⟨#[u0, .string nm, u2, .bool a3, u4, u5, .bool a6, u7, u8, u9, u10, u11, u12, u13, u14, u15, u16, u17, u18, u19, u20, .int .u8 pol, pt B, pt (B + 1), pt (B + 2), pt (B + 3), .int .u8 mm, .int .i64 ls.length, .int .i64 hs.length, u29, u30, u31, .int .u8 f, .int .i64 q, .int .i64 p, u35, u36, u37, u38, u39, u40, u41, u42, u43, u44, u45, u46, u47, u48, u49, u50, u51, u52, u53, u54, u55, u56, u57, u58, u59, u60, u61, u62, u63, u64, u65, u66, u67, u68, u69, u70, u71, u72, u73, u74, u75, u76, u77, u78, u79, u80, u81, u82, u83, u84, u85, u86, u87, u88, u89, u90, u91, u92, u93, u94, u95, u96, u97, u98, u99, u100, u101, u102, u103, u104, u105, u106, u107, u108, u109, u110, u111, u112, u113, u114, u115, u116, u117, u118, u119, u120, u121, u122, u123, u124, u125, u126, u127, u128, u129, u130, u131, u132, u133, u134, u135, u136, u137, u138, u139, u140, u141, u142, u143, u144, u145, u146, u147, u148, u149, u150, u151, u152, u153, u154, u155, u156, u157, u158, u159, u160, u161, u162, u163, u164, u165, u166, u167, u168, u169, u170, u171, u172, u173, u174, u175, u176, u177, u178, u179, u180, u181, u182, u183, u184, u185, u186, u187, u188, u189, u190, u191, u192, u193, u194, u195, u196, u197, u198, u199, u200, u201, u202, u203, u204, u205, u206, u207, u208, u209, u210, u211, u212, u213, u214, u215, u216, u217, u218, u219, u220, u221, u222, u223, u224, u225, u226, u227, u228, u229, u230, u231, u232, u233, u234, u235, u236, u237, u238, u239, u240, u241, u242, u243, u244, u245, u246, u247, u248, u249, u250, u251, u252, u253, u254, u255, u256, u257, u258, u259, u260, u261, u262, u263, u264, u265, u266, u267, u268, u269, u270, u271, u272, u273, u274, u275, u276, u277, u278, u279, u280, u281, u282, u283, u284, u285, u286, u287, u288, u289, u290, u291, u292, u293, u294, u295, u296, u297, u298, u299, u300, u301, u302, u303, u304, u305, u306, u307, u308, u309, u310, u311, u312, u313, u314, u315, u316, u317, u318, u319, u320, u321, u322, u323, u324, u325, u326, u327, u328, u329, u330, u331, u332, u333, u334, u335, u336, u337, u338, u339, u340, u341, u342, u343, u344, u345, u346, u347], []⟩ wx := by
  obtain ⟨k0, hk0⟩ : ∃ k0, ls.length = k0 := ⟨_, rfl⟩
  obtain ⟨i0, hi0⟩ : ∃ i0, hs.length = i0 := ⟨_, rfl⟩
  rw [hk0, hi0]
  have HK0 : Hid (ls.length = k0 ∧ hs.length = i0 ∧ w.heap.size = B) := ⟨hk0, hi0, hw⟩
  rw [hk0] at hkl
  clear hk0 hi0 hw
  conv => arg 2; whnf
  dsimp only
  go_upto_region 33 with fail
  go_cut [35] (fun s35 wz => s35 = .bool (a3 || (!a6 && decide (k0 = 0))) ∧ wx = wz)
  case first => as_aux_lemma =>
    clear hM
    by_cases hk0 : k0 = 0
    · have hkb : ((k0 : Int) == 0) = true := by simp [hk0]
      have HK : Hid (k0 = 0) := hk0
      clear hk0
      cases a3 <;> cases a6
      all_goals
        go_wp2_with fail
        go_meet
        case rel => exact ⟨by simp [HK.out], rfl⟩
    · have hkb : ((k0 : Int) == 0) = false := by simp; omega
      have HK : Hid (¬ k0 = 0) := hk0
      clear hk0
      cases a3 <;> cases a6
      all_goals
        go_wp2_with fail
        go_meet
        case rel => exact ⟨by simp [HK.out], rfl⟩
  case rest => as_aux_lemma =>
    obtain ⟨rfl, rfl⟩ := hcut
    apply_assumption
    cases a6 with
    | true => exact tail34_yes _ _ _ _ _ _ _ _ _ _ _ _ _ _ _ _ _ _ _ _ _ _ _ _ _ _ _ _ _ _ _ _ _ _ _ _ _ _ _ _ _ _ _ _ _ _ _ _ _ _ _ _ _ _ _ _ _ _ _ _ _ _ _ _ _ _ _ _ _ _ _ _ _ _ _ _ _ _ _ _ _ _ _ _ _ _ _ _ _ _ _ _ _ _ _ _ _ _ _ _ _ _ _ _ _ _ _ _ _ _ _ _ _ _ _ _ _ _ _ _ _ _ _ _ _ _ _ _ _ _ _ _ _ _ _ _ _ _ _ _ _ _ _ _ _ _ _ _ _ _ _ _ _ _ _ _ _ _ _ _ _ _ _ _ _ _ _ _ _ _ _ _ _ _ _ _ _ _ _ _ _ _ _ _ _ _ _ _ _ _ _ _ _ _ _ _ _ _ _ _ _ _ _ _ _ _ _ _ _ _ _ _ _ _ _ _ _ _ _ _ _ _ _ _ _ _ _ _ _ _ _ _ _ _ _ _ _ _ _ _ _ _ _ _ _ _ _ _ _ _ _ _ _ _ _ _ _ _ _ _ _ _ _ _ _ _ _ _ _ _ _ _ _ _ _ _ _ _ _ _ _ _ _ _ _ _ _ _ _ _ _ _ _ _ _ _ _ _ _ _ _ _ _ _ _ _ _ _ _ _ _ _ _ _ _ _ _ _ _ _ _ _ _ _ _ _ _ _ _ _ _ _ _ _ nm pol _ B k0 i0 mm f q p n k ao al c cl hs ls HS LS HC w wx HK0.out.2.2 hnb hkb hmm hM
    | false =>
      obtain ⟨e1, e2, e3⟩ := hM.no rfl
      subst e1
      have hn := hM.hn
      have hk := hM.hk
      rw [e2, HK0.out.2.1] at hn
      rw [e3, HK0.out.1] at hk
      subst hn
      subst hk
      exact tail34_no _ _ _ _ _ _ _ _ _ _ _ _ _ _ _ _ _ _ _ _ _ _ _ _ _ _ _ _ _ _ _ _ _ _ _ _ _ _ _ _ _ _ _ _ _ _ _ _ _ _ _ _ _ _ _ _ _ _ _ _ _ _ _ _ _ _ _ _ _ _ _ _ _ _ _ _ _ _ _ _ _ _ _ _ _ _ _ _ _ _ _ _ _ _ _ _ _ _ _ _ _ _ _ _ _ _ _ _ _ _ _ _ _ _ _ _ _ _ _ _ _ _ _ _ _ _ _ _ _ _ _ _ _ _ _ _ _ _ _ _ _ _ _ _ _ _ _ _ _ _ _ _ _ _ _ _ _ _ _ _ _ _ _ _ _ _ _ _ _ _ _ _ _ _ _ _ _ _ _ _ _ _ _ _ _ _ _ _ _ _ _ _ _ _ _ _ _ _ _ _ _ _ _ _ _ _ _ _ _ _ _ _ _ _ _ _ _ _ _ _ _ _ _ _ _ _ _ _ _ _ _ _ _ _ _ _ _ _ _ _ _ _ _ _ _ _ _ _ _ _ _ _ _ _ _ _ _ _ _ _ _ _ _ _ _ _ _ _ _ _ _ _ _ _ _ _ _ _ _ _ _ _ _ _ _ _ _ _ _ _ _ _ _ _ _ _ _ _ _ _ _ _ _ _ _ _ _ _ _ _ _ _ _ _ _ _ _ _ _ _ _ _ _ _ _ _ _ _ _ _ _ _ _ _ _ _ nm pol _ B mm 0 q p i0 k0 ao al c cl hs ls HS LS HC w wx HK0.out.2.2 hnb hkb hmm (fun h => by simp at h; omega) hM
end Go.Proofs.Ybulkdkve.lawS5594CWhole

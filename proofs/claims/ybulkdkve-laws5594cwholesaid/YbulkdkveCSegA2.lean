import Derived.Test.YbulkdkveCReg22
import Derived.Deep.CutBlock
namespace Go.Proofs.Ybulkdkve.lawS5594CWhole
open Go.RowKit Go.Deep
set_option linter.unusedVariables false
set_option linter.unusedSimpArgs false

set_option maxRecDepth 100000 in
set_option maxHeartbeats 8000000 in
theorem segA2 (u0 u2 u5 u10 u11 u12 u13 u14 u15 u16 u17 u18 u19 u20 u29 u30 u31 u32 u33 u34 u35 u36 u37 u38 u39 u40 u41 u42 u43 u44 u45 u46 u47 u48 u49 u50 u51 u52 u53 u54 u55 u56 u57 u58 u59 u60 u61 u62 u63 u64 u65 u66 u67 u68 u69 u70 u71 u72 u73 u74 u75 u76 u77 u78 u79 u80 u81 u82 u83 u84 u85 u86 u87 u88 u89 u90 u91 u92 u93 u94 u95 u96 u97 u98 u99 u100 u101 u102 u103 u104 u105 u106 u107 u108 u109 u110 u111 u112 u113 u114 u115 u116 u117 u118 u119 u120 u121 u122 u123 u124 u125 u126 u127 u128 u129 u130 u131 u132 u133 u134 u135 u136 u137 u138 u139 u140 u141 u142 u143 u144 u145 u146 u147 u148 u149 u150 u151 u152 u153 u154 u155 u156 u157 u158 u159 u160 u161 u162 u163 u164 u165 u166 u167 u168 u169 u170 u171 u172 u173 u174 u175 u176 u177 u178 u179 u180 u181 u182 u183 u184 u185 u186 u187 u188 u189 u190 u191 u192 u193 u194 u195 u196 u197 u198 u199 u200 u201 u202 u203 u204 u205 u206 u207 u208 u209 u210 u211 u212 u213 u214 u215 u216 u217 u218 u219 u220 u221 u222 u223 u224 u225 u226 u227 u228 u229 u230 u231 u232 u233 u234 u235 u236 u237 u238 u239 u240 u241 u242 u243 u244 u245 u246 u247 u248 u249 u250 u251 u252 u253 u254 u255 u256 u257 u258 u259 u260 u261 u262 u263 u264 u265 u266 u267 u268 u269 u270 u271 u272 u273 u274 u275 u276 u277 u278 u279 u280 u281 u282 u283 u284 u285 u286 u287 u288 u289 u290 u291 u292 u293 u294 u295 u296 u297 u298 u299 u300 u301 u302 u303 u304 u305 u306 u307 u308 u309 u310 u311 u312 u313 u314 u315 u316 u317 u318 u319 u320 u321 u322 u323 u324 u325 u326 u327 u328 u329 u330 u331 u332 u333 u334 u335 u336 u337 u338 u339 u340 u341 u342 u343 u344 u345 u346 u347 : Value) (nm : ByteArray) (pol : Int) (a3 a6 : Bool) (a4 : Option Addr) (len4 cap4 : Nat) (z4 : Nat → Int) (a7 a8 a9 : Int) (B mm i : Nat) (ao : Option Addr) (c : Nat) (hs : List Hd) (hc : Nat → Int) (w wr0 : World) (hw : w.heap.size = B) (hlen : len4 + i ≤ 65536) (hmm : 1 ≤ mm ∧ mm ≤ 3)
    (b7 : 0 ≤ a7 ∧ a7 ≤ 255) (b8 : 0 ≤ a8 ∧ a8 ≤ 65535) (b9 : 0 ≤ a9 ∧ a9 ≤ 65535) (r4 : Rd w a4 len4 z4) (hn : hs.length = i) (hao : i = 0 → ao = none)
    (hph : Phase B tz0 rz0 nm pol (.slice ao i c) (.slice none 0 0) hs [] hc i w wr0) :
    Code.wp Yba.prog (dropSeq 12 (Yba.f4.body.getD .skip)) (bodyPost Yba.prog Yba.f4 fun e w' => e = .returned (.bool true) ∧ Below w.heap.size w w') ⟨#[u0, .string nm, u2, .bool a3, .slice a4 len4 cap4, u5, .bool a6, .int .u8 a7, .int .u16 a8, .int .u16 a9, u10, u11, u12, u13, u14, u15, u16, u17, u18, u19, u20, .int .u8 pol, pt B, pt (B + 1), pt (B + 2), pt (B + 3), .int .u8 mm, .int .i64 len4, .int .i64 i, u29, u30, u31, u32, u33, u34, u35, u36, u37, u38, u39, u40, u41, u42, u43, u44, u45, u46, u47, u48, u49, u50, u51, u52, u53, u54, u55, u56, u57, u58, u59, u60, u61, u62, u63, u64, u65, u66, u67, u68, u69, u70, u71, u72, u73, u74, u75, u76, u77, u78, u79, u80, u81, u82, u83, u84, u85, u86, u87, u88, u89, u90, u91, u92, u93, u94, u95, u96, u97, u98, u99, u100, u101, u102, u103, u104, u105, u106, u107, u108, u109, u110, u111, u112, u113, u114, u115, u116, u117, u118, u119, u120, u121, u122, u123, u124, u125, u126, u127, u128, u129, u130, u131, u132, u133, u134, u135, u136, u137, u138, u139, u140, u141, u142, u143, u144, u145, u146, u147, u148, u149, u150, u151, u152, u153, u154, u155, u156, u157, u158, u159, u160, u161, u162, u163, u164, u165, u166, u167, u168, u169, u170, u171, u172, u173, u174, u175, u176, u177, u178, u179, u180, u181, u182, u183, u184, u185, u186, u187, u188, u189, u190, u191, u192, u193, u194, u195, u196, u197, u198, u199, u200, u201, u202, u203, u204, u205, u206, u207, u208, u209, u210, u211, u212, u213, u214, u215, u216, u217, u218, u219, u220, u221, u222, u223, u224, u225, u226, u227, u228, u229, u230, u231, u232, u233, u234, u235, u236, u237, u238, u239, u240, u241, u242, u243, u244, u245, u246, u247, u248, u249, u250, u251, u252, u253, u254, u255, u256, u257, u258, u259, u260, u261, u262, u263, u264, u265, u266, u267, u268, u269, u270, u271, u272, u273, u274, u275, u276, u277, u278, u279, u280, u281, u282, u283, u284, u285, u286, u287, u288, u289, u290, u291, u292, u293, u294, u295, u296, u297, u298, u299, u300, u301, u302, u303, u304, u305, u306, u307, u308, u309, u310, u311, u312, u313, u314, u315, u316, u317, u318, u319, u320, u321, u322, u323, u324, u325, u326, u327, u328, u329, u330, u331, u332, u333, u334, u335, u336, u337, u338, u339, u340, u341, u342, u343, u344, u345, u346, u347], []⟩ wr0 := by
  obtain ⟨j0, ji, jz0, jz1, jz2⟩ := info_parts info90
  have HB : Hid (w.heap.size = B) := hw
  have HA : Hid ((0 ≤ a7 ∧ a7 ≤ 255) ∧ (0 ≤ a8 ∧ a8 ≤ 65535) ∧ (0 ≤ a9 ∧ a9 ≤ 65535) ∧ (i = 0 → ao = none)) := ⟨b7, b8, b9, hao⟩
  clear hw b7 b8 b9 hao
  conv => arg 2; whnf
  go_upto_block 2 with fail
  go_cut [31] (fun s31 wx => ∃ (al : Option Addr) (cl : Nat) (ls : List Lk), ls.length = len4 ∧ (len4 = 0 → al = none) ∧ Phase B tz0 rz0 nm pol (.slice ao i c) (.slice al len4 cl) hs ls hc i w wx)
  case first => as_aux_lemma =>
    go_wp2_with fail
    go_loopg [31] len4 (fun gk s31 wr => ∃ (k : Nat) (al : Option Addr) (cl : Nat) (ls : List Lk), k + gk = len4 ∧ s31 = .int .i64 k ∧ ls.length = k ∧ (k = 0 → al = none) ∧ Phase B tz0 rz0 nm pol (.slice ao i c) (.slice al k cl) hs ls hc i w wr)
    case atStart => exact ⟨0, none, 0, [], by omega, rfl, rfl, fun _ => rfl, hph⟩
    case round =>
      clear hph
      obtain ⟨k, al, cl, ls, hgk, rfl, hk, hal, hph⟩ := hrel
      by_cases hlt : k < len4
      · rcases r4 with r4 | ⟨b4, o4, rfl, hb4, hr4⟩
        · omega
        obtain ⟨hcell, hz4a, hz4b⟩ := hr4 k hlt
        have hcell2 : wr.cell? ⟨b4, o4 + k, none⟩ = some (.int .u8 (z4 k)) := by
          rw [hph.bel.cell (p := ⟨b4, o4 + k, none⟩) (by rw [← HB.out]; exact hb4)]
          exact hcell
        have hcell3 : ∀ o, (wr.alloc o).cell? ⟨b4, o4 + k, none⟩ = some (.int .u8 (z4 k)) := fun o => ((Chg.refl [] wr).alloc o).cell hcell2 (by simp)
        have c5 := hph.sys.c5
        have c5a : ∀ o, (wr.alloc o).cell? ⟨B + 2, 5, none⟩ = some (.slice al k cl) := fun o => (hph.sys.t.alloc o).cell (i := 5) (by omega)
        have c5b : ∀ o o', ((wr.alloc o).alloc o').cell? ⟨B + 2, 5, none⟩ = some (.slice al k cl) := fun o o' => ((hph.sys.t.alloc o).alloc o').cell (i := 5) (by omega)
        have lo := hph.sys.lo
        rw [hk] at lo
        have hsz := hph.size
        have hlti : (k : Int) < (len4 : Int) := by omega
        clear hal
        have hk63 : (k : Int) + 1 ≤ 100000 := by omega
        have hwk : IntKind.i64.wrap ((k : Int) + 1) = (k : Int) + 1 := by rw [IntKind.wrap_i64]; omega
        have hnz : ¬ ((k : Int) + 1 = 0) := by omega
        have hnb : Hid (∀ o1 o2, ((wr.alloc o1).alloc o2).drew.heap[wr.heap.size + 1]? = some o2) := fun o1 o2 => by show ((wr.alloc o1).alloc o2).heap[wr.heap.size + 1]? = some o2; have := heap_alloc_new (wr.alloc o1) o2; simpa using this
        clear hcell hr4
        have hwz : IntKind.i64.wrap (z4 k) = z4 k := by rw [IntKind.wrap_i64]; omega
        go_upto_block 3 with fail
        go_cut [] (fun wx => ∃ (gl' cl' : Nat) (x : Lk), Phase B tz0 rz0 nm pol (.slice ao i c) (.slice (some ⟨gl', 0, none⟩) (k + 1) cl') hs (ls ++ [x]) hc i w wx)
        case first => as_aux_lemma =>
          go_wp2_with fail
          refine reg22 _ _ _ _ _ _ _ _ _ _ _ _ _ _ _ _ _ _ _ _ _ _ _ _ _ _ _ _ _ _ _ _ _ _ _ _ _ _ _ _ _ _ _ _ _ _ _ _ _ _ _ _ _ _ _ _ _ _ _ _ _ _ _ _ _ _ _ _ _ _ _ _ _ _ _ _ _ _ _ _ _ _ _ _ _ _ _ _ _ _ _ _ _ _ _ _ _ _ _ _ _ _ _ _ _ _ _ _ _ _ _ _ _ _ _ _ _ _ _ _ _ _ _ _ _ _ _ _ _ _ _ _ _ _ _ _ _ _ _ _ _ _ _ _ _ _ _ _ _ _ _ _ _ _ _ _ _ _ _ _ _ _ _ _ _ _ _ _ _ _ _ _ _ _ _ _ _ _ _ _ _ _ _ _ _ _ _ _ _ _ _ _ _ _ _ _ _ _ _ _ _ _ _ _ _ _ _ _ _ _ _ _ _ _ _ _ _ _ _ _ _ _ _ _ _ _ _ _ _ _ _ _ _ _ _ _ _ _ _ _ _ _ _ _ _ _ _ _ _ _ _ _ _ _ _ _ _ _ _ _ _ _ _ _ _ _ _ _ _ _ _ _ _ _ _ _ _ _ _ _ _ _ _ _ _ _ _ _ _ _ _ _ _ _ _ _ _ _ _ _ _ _ _ _ _ _ _ _ _ _ _ _ _ _ _ _ _ _ _ _ _ _ _ _ _ _ _ _ _ _ _ _ _ _ _ _ _ _ _ _ _ _ _ _ _ b4 o4 len4 cap4 B k cl al ls (z4 k) wr _ hlt (by omega) ⟨hz4a, hz4b⟩ hcell2 hsz ⟨_, hph.sys.t, rfl⟩ lo ?_
          rintro v112 v113 v114 v115 v116 v117 v118 v119 v120 v121 v122 v123 v124 v125 v126 v127 v128 v129 v130 v131 gl' cl' x w2 hown2 hch2 hty
          have P1 := hph.pushL hch2 hk hown2 ⟨by show B + 4 ≤ wr.heap.size; omega, hty⟩
          clear hown2 hch2 hty
          go_wp2_with fail
          go_meet
          case rel => exact ⟨gl', cl', _, P1⟩
        case rest => as_aux_lemma =>
          obtain ⟨gl', cl', x, P1⟩ := hcut
          clear hph c5 c5a c5b lo hcell2 hcell3 hnb hwz
          go_wp2_with fail
          go_roundg (gk - 1)
          case rel => exact ⟨k + 1, some ⟨gl', 0, none⟩, cl', ls ++ [x], by omega, by go_num, by simp [hk], by omega, P1⟩
          case measure => omega
      · obtain rfl : k = len4 := by omega
        clear hlt hgk r4
        go_wp2_with fail
        go_meet
        case rel => exact ⟨al, cl, ls, hk, hal, hph⟩
  case rest => as_aux_lemma =>
    clear hph r4
    obtain ⟨al, cl, ls, hk, hal, hph⟩ := hcut
    apply_assumption
    exact segB _ _ _ _ _ _ _ _ _ _ _ _ _ _ _ _ _ _ _ _ _ _ _ _ _ _ _ _ _ _ _ _ _ _ _ _ _ _ _ _ _ _ _ _ _ _ _ _ _ _ _ _ _ _ _ _ _ _ _ _ _ _ _ _ _ _ _ _ _ _ _ _ _ _ _ _ _ _ _ _ _ _ _ _ _ _ _ _ _ _ _ _ _ _ _ _ _ _ _ _ _ _ _ _ _ _ _ _ _ _ _ _ _ _ _ _ _ _ _ _ _ _ _ _ _ _ _ _ _ _ _ _ _ _ _ _ _ _ _ _ _ _ _ _ _ _ _ _ _ _ _ _ _ _ _ _ _ _ _ _ _ _ _ _ _ _ _ _ _ _ _ _ _ _ _ _ _ _ _ _ _ _ _ _ _ _ _ _ _ _ _ _ _ _ _ _ _ _ _ _ _ _ _ _ _ _ _ _ _ _ _ _ _ _ _ _ _ _ _ _ _ _ _ _ _ _ _ _ _ _ _ _ _ _ _ _ _ _ _ _ _ _ _ _ _ _ _ _ _ _ _ _ _ _ _ _ _ _ _ _ _ _ _ _ _ _ _ _ _ _ _ _ _ _ _ _ _ _ _ _ _ _ _ _ _ _ _ _ _ _ _ _ _ _ _ _ _ _ _ _ _ _ _ _ _ _ _ _ _ _ _ _ _ _ _ _ _ _ _ _ _ _ _ _ _ _ _ _ _ _ _ _ _ _ nm pol a3 a6 a7 a8 a9 B mm i len4 ao al c cl hs ls hc w wc HB.out hlen hmm HA.out.1 HA.out.2.1 HA.out.2.2.1 hn hk HA.out.2.2.2 hal hph
end Go.Proofs.Ybulkdkve.lawS5594CWhole

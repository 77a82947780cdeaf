import Derived.Test.YbulkdkveCSegA2
namespace Go.Proofs.Ybulkdkve.lawS5594CWhole
open Go.RowKit Go.Deep
set_option linter.unusedVariables false
set_option linter.unusedSimpArgs false

set_option maxRecDepth 100000 in
set_option maxHeartbeats 8000000 in
theorem segA1 (u0 u2 u10 u11 u12 u13 u14 u15 u16 u17 u18 u19 u20 u29 u30 u31 u32 u33 u34 u35 u36 u37 u38 u39 u40 u41 u42 u43 u44 u45 u46 u47 u48 u49 u50 u51 u52 u53 u54 u55 u56 u57 u58 u59 u60 u61 u62 u63 u64 u65 u66 u67 u68 u69 u70 u71 u72 u73 u74 u75 u76 u77 u78 u79 u80 u81 u82 u83 u84 u85 u86 u87 u88 u89 u90 u91 u92 u93 u94 u95 u96 u97 u98 u99 u100 u101 u102 u103 u104 u105 u106 u107 u108 u109 u110 u111 u112 u113 u114 u115 u116 u117 u118 u119 u120 u121 u122 u123 u124 u125 u126 u127 u128 u129 u130 u131 u132 u133 u134 u135 u136 u137 u138 u139 u140 u141 u142 u143 u144 u145 u146 u147 u148 u149 u150 u151 u152 u153 u154 u155 u156 u157 u158 u159 u160 u161 u162 u163 u164 u165 u166 u167 u168 u169 u170 u171 u172 u173 u174 u175 u176 u177 u178 u179 u180 u181 u182 u183 u184 u185 u186 u187 u188 u189 u190 u191 u192 u193 u194 u195 u196 u197 u198 u199 u200 u201 u202 u203 u204 u205 u206 u207 u208 u209 u210 u211 u212 u213 u214 u215 u216 u217 u218 u219 u220 u221 u222 u223 u224 u225 u226 u227 u228 u229 u230 u231 u232 u233 u234 u235 u236 u237 u238 u239 u240 u241 u242 u243 u244 u245 u246 u247 u248 u249 u250 u251 u252 u253 u254 u255 u256 u257 u258 u259 u260 u261 u262 u263 u264 u265 u266 u267 u268 u269 u270 u271 u272 u273 u274 u275 u276 u277 u278 u279 u280 u281 u282 u283 u284 u285 u286 u287 u288 u289 u290 u291 u292 u293 u294 u295 u296 u297 u298 u299 u300 u301 u302 u303 u304 u305 u306 u307 u308 u309 u310 u311 u312 u313 u314 u315 u316 u317 u318 u319 u320 u321 u322 u323 u324 u325 u326 u327 u328 u329 u330 u331 u332 u333 u334 u335 u336 u337 u338 u339 u340 u341 u342 u343 u344 u345 u346 u347 : Value) (nm : ByteArray) (pol : Int) (a3 a6 : Bool) (a4 : Option Addr) (len4 cap4 : Nat) (z4 : Nat → Int) (a5 : Option Addr) (len5 cap5 : Nat) (z5 : Nat → Int) (a7 a8 a9 : Int) (B mm : Nat) (w wr0 : World) (hw : w.heap.size = B) (hlen : len4 + len5 ≤ 65536) (hmm : 1 ≤ mm ∧ mm ≤ 3)
    (b7 : 0 ≤ a7 ∧ a7 ≤ 255) (b8 : 0 ≤ a8 ∧ a8 ≤ 65535) (b9 : 0 ≤ a9 ∧ a9 ≤ 65535) (r4 : Rd w a4 len4 z4) (r5 : Rd w a5 len5 z5)
    (hph0 : Phase B tz0 rz0 nm pol (.slice none 0 0) (.slice none 0 0) [] [] (fun _ => 0) 0 w wr0) :
    Code.wp Yba.prog (dropSeq 11 (Yba.f4.body.getD .skip)) (bodyPost Yba.prog Yba.f4 fun e w' => e = .returned (.bool true) ∧ Below w.heap.size w w') ⟨#[u0, .string nm, u2, .bool a3, .slice a4 len4 cap4, .slice a5 len5 cap5, .bool a6, .int .u8 a7, .int .u16 a8, .int .u16 a9, u10, u11, u12, u13, u14, u15, u16, u17, u18, u19, u20, .int .u8 pol, pt B, pt (B + 1), pt (B + 2), pt (B + 3), .int .u8 mm, .int .i64 len4, .int .i64 len5, u29, u30, u31, u32, u33, u34, u35, u36, u37, u38, u39, u40, u41, u42, u43, u44, u45, u46, u47, u48, u49, u50, u51, u52, u53, u54, u55, u56, u57, u58, u59, u60, u61, u62, u63, u64, u65, u66, u67, u68, u69, u70, u71, u72, u73, u74, u75, u76, u77, u78, u79, u80, u81, u82, u83, u84, u85, u86, u87, u88, u89, u90, u91, u92, u93, u94, u95, u96, u97, u98, u99, u100, u101, u102, u103, u104, u105, u106, u107, u108, u109, u110, u111, u112, u113, u114, u115, u116, u117, u118, u119, u120, u121, u122, u123, u124, u125, u126, u127, u128, u129, u130, u131, u132, u133, u134, u135, u136, u137, u138, u139, u140, u141, u142, u143, u144, u145, u146, u147, u148, u149, u150, u151, u152, u153, u154, u155, u156, u157, u158, u159, u160, u161, u162, u163, u164, u165, u166, u167, u168, u169, u170, u171, u172, u173, u174, u175, u176, u177, u178, u179, u180, u181, u182, u183, u184, u185, u186, u187, u188, u189, u190, u191, u192, u193, u194, u195, u196, u197, u198, u199, u200, u201, u202, u203, u204, u205, u206, u207, u208, u209, u210, u211, u212, u213, u214, u215, u216, u217, u218, u219, u220, u221, u222, u223, u224, u225, u226, u227, u228, u229, u230, u231, u232, u233, u234, u235, u236, u237, u238, u239, u240, u241, u242, u243, u244, u245, u246, u247, u248, u249, u250, u251, u252, u253, u254, u255, u256, u257, u258, u259, u260, u261, u262, u263, u264, u265, u266, u267, u268, u269, u270, u271, u272, u273, u274, u275, u276, u277, u278, u279, u280, u281, u282, u283, u284, u285, u286, u287, u288, u289, u290, u291, u292, u293, u294, u295, u296, u297, u298, u299, u300, u301, u302, u303, u304, u305, u306, u307, u308, u309, u310, u311, u312, u313, u314, u315, u316, u317, u318, u319, u320, u321, u322, u323, u324, u325, u326, u327, u328, u329, u330, u331, u332, u333, u334, u335, u336, u337, u338, u339, u340, u341, u342, u343, u344, u345, u346, u347], []⟩ wr0 := by
  obtain ⟨i0, hi, hz0, hz1, hz2⟩ := info_parts info88
  have HB : Hid (w.heap.size = B) := hw
  have HA : Hid ((0 ≤ a7 ∧ a7 ≤ 255) ∧ (0 ≤ a8 ∧ a8 ≤ 65535) ∧ (0 ≤ a9 ∧ a9 ≤ 65535)) := ⟨b7, b8, b9⟩
  clear hw b7 b8 b9
  conv => arg 2; whnf
  go_upto_block 0 with fail
  go_cut [29, 30] (fun s29 s30 wx => ∃ (ao : Option Addr) (c : Nat) (hs : List Hd) (hc : Nat → Int), hs.length = len5 ∧ (len5 = 0 → ao = none) ∧ Phase B tz0 rz0 nm pol (.slice ao len5 c) (.slice none 0 0) hs [] hc len5 w wx)
  case first => as_aux_lemma =>
    go_wp2_with fail
    go_loopg [29, 30] len5 (fun gk s29 s30 wr => ∃ (i : Nat) (ao : Option Addr) (c : Nat) (hs : List Hd) (hc : Nat → Int), i + gk = len5 ∧ s29 = .int .i64 i ∧ hs.length = i ∧ (i = 0 → ao = none) ∧ Phase B tz0 rz0 nm pol (.slice ao i c) (.slice none 0 0) hs [] hc i w wr)
    case atStart => exact ⟨0, none, 0, [], fun _ => 0, by omega, rfl, rfl, fun _ => rfl, hph0⟩
    case round =>
      clear hph0
      obtain ⟨i, ao, c, hs, hc, hgk, rfl, hn, hao, hph⟩ := hrel
      by_cases hlt : i < len5
      · rcases r5 with r5 | ⟨b5, o5, rfl, hb5, hr5⟩
        · omega
        obtain ⟨hcell, hz5a, hz5b⟩ := hr5 i hlt
        have hcell2 : wr.cell? ⟨b5, o5 + i, none⟩ = some (.int .u8 (z5 i)) := by
          rw [hph.bel.cell (p := ⟨b5, o5 + i, none⟩) (by rw [← HB.out]; exact hb5)]
          exact hcell
        obtain ⟨m, hm⟩ : ∃ m : Nat, z5 i % 3 + 1 = (m : Int) := ⟨(z5 i % 3 + 1).toNat, by omega⟩
        have hm1 : 1 ≤ m ∧ m ≤ 3 := by omega
        have c3 := hph.sys.c3
        have c3a : ∀ o, (wr.alloc o).cell? ⟨B + 3, 3, none⟩ = some (.slice ao i c) := fun o => (hph.sys.r.alloc o).cell (i := 3) (by omega)
        have ho := hph.sys.ho
        rw [hn] at ho
        have hsz := hph.size
        have hlti : (i : Int) < (len5 : Int) := by omega
        clear hao
        clear hcell hr5
        have bc := (hph.cnt m)
        obtain ⟨bc1, bc2⟩ := bc
        have hcm := hph.sys.cnt (m := m) (by omega)
        have hnb : Hid (∀ o1 o2, ((wr.alloc o1).alloc o2).heap[wr.heap.size + 1]? = some o2) := fun o1 o2 => by have := heap_alloc_new (wr.alloc o1) o2; simpa using this
        go_wp2_with (at_builtin; go_must (refine wpList_append_lies _ rfl (.tmp 85) (.tmp 93) 81 rfl (B + 4) 88 i0 _ 4 24 Yba.underlying81 hi hz0 hz1 hz2 rfl (by decide) _ i (flat encH hs) rfl ((ho.alloc _).alloc _) ⟨wr.heap.size + 1, 0, none⟩ 1 1 (encH ⟨wr.heap.size, m, 0⟩) rfl rfl (World.news_of_block (by exact hnb.out _ _)) (encH_one _) (by decide) (by unfold maxLen; omega) (by omega) (by simp; omega) _ rfl ?_))
        intro g' c' w1 hown1 hgrow1 hat1 hlt1
        have hch1 : Chg (Value.slice ao i c).ownBlock.toList wr w1 := (((Chg.refl _ wr).alloc _).alloc _).grown hgrow1 (by intro k hk _; rw [Option.mem_toList]; exact hk)
        have hty : TyAt w1 wr.heap.size 80 := by
          refine TyAt.chg (L := (Value.slice ao i c).ownBlock.toList) (w := (wr.alloc _).alloc _) ((Chg.refl _ _).grown hgrow1 (by intro k hk _; rw [Option.mem_toList]; exact hk)) (((TyAt.new wr _ 80).chg ((Chg.refl [] _).alloc _) (by simp))) ?_
          intro hm
          rw [Option.mem_toList] at hm
          have := hph.sys.hlt hm
          omega
        obtain ⟨k3, f3⟩ := hph.sys.r3 hch1
        have P1 := (hph.pushH hch1 hn hown1 ⟨by show B + 4 ≤ wr.heap.size; omega, hty⟩)
        have HX : Hid (Phase B tz0 rz0 nm pol (.slice (some ⟨g', 0, none⟩) (i + 1) c') (.slice none 0 0) (hs ++ [⟨wr.heap.size, m, 0⟩]) [] hc i w (w1.setCell ⟨B + 3, 3, none⟩ (.slice (some ⟨g', 0, none⟩) (i + 1) c'))) := P1
        clear P1 hown1 hgrow1 hat1 hlt1 hch1 hty hph c3 c3a ho hcm hnb hcell2
        go_wp2_with fail
        generalize (w1.setCell ⟨B + 3, 3, none⟩ (.slice (some ⟨g', 0, none⟩) (i + 1) c')) = W2 at *
        have P1 := HX.out
        have hcm := P1.sys.cnt (m := m) (by omega)
        have fR := P1.sys.r.frozen
        clear HX k3 f3
        go_region
        have P2 := P1.count (m := m) (by omega)
        clear hcm fR P1
        go_wp2_with fail
        go_roundg (gk - 1)
        case rel => exact ⟨i + 1, some ⟨g', 0, none⟩, c', hs ++ [⟨wr.heap.size, m, 0⟩], upd hc m (hc m + 1), by omega, by go_num, by simp [hn], by omega, by rw [show ((i + 1 : Nat) : Int) = (i : Int) + 1 by omega]; exact P2⟩
        case measure => omega
      · obtain rfl : i = len5 := by omega
        clear hlt hgk r5
        go_wp2_with fail
        go_meet
        case rel => exact ⟨ao, c, hs, hc, hn, hao, hph⟩
  case rest => as_aux_lemma =>
    clear hph0 r5
    obtain ⟨ao, c, hs, hc, hn, hao, hph⟩ := hcut
    apply_assumption
    exact segA2 _ _ _ _ _ _ _ _ _ _ _ _ _ _ _ _ _ _ _ _ _ _ _ _ _ _ _ _ _ _ _ _ _ _ _ _ _ _ _ _ _ _ _ _ _ _ _ _ _ _ _ _ _ _ _ _ _ _ _ _ _ _ _ _ _ _ _ _ _ _ _ _ _ _ _ _ _ _ _ _ _ _ _ _ _ _ _ _ _ _ _ _ _ _ _ _ _ _ _ _ _ _ _ _ _ _ _ _ _ _ _ _ _ _ _ _ _ _ _ _ _ _ _ _ _ _ _ _ _ _ _ _ _ _ _ _ _ _ _ _ _ _ _ _ _ _ _ _ _ _ _ _ _ _ _ _ _ _ _ _ _ _ _ _ _ _ _ _ _ _ _ _ _ _ _ _ _ _ _ _ _ _ _ _ _ _ _ _ _ _ _ _ _ _ _ _ _ _ _ _ _ _ _ _ _ _ _ _ _ _ _ _ _ _ _ _ _ _ _ _ _ _ _ _ _ _ _ _ _ _ _ _ _ _ _ _ _ _ _ _ _ _ _ _ _ _ _ _ _ _ _ _ _ _ _ _ _ _ _ _ _ _ _ _ _ _ _ _ _ _ _ _ _ _ _ _ _ _ _ _ _ _ _ _ _ _ _ _ _ _ _ _ _ _ _ _ _ _ _ _ _ _ _ _ _ _ _ _ _ _ _ _ _ _ _ _ _ _ _ _ _ _ _ _ _ _ _ _ _ _ _ _ _ nm pol a3 a6 a4 len4 cap4 z4 a7 a8 a9 B mm len5 ao c hs hc w wc HB.out hlen hmm HA.out.1 HA.out.2.1 HA.out.2.2 r4 hn hao hph
end Go.Proofs.Ybulkdkve.lawS5594CWhole

import Derived.Test.YbulkdkveCTail
namespace Go.Proofs.Ybulkdkve.lawS5594CWhole
open Go.RowKit Go.Deep
set_option linter.unusedVariables false
set_option linter.unusedSimpArgs false

set_option maxRecDepth 100000 in
set_option maxHeartbeats 4000000 in
theorem tail34_no (u0 u2 u3 u4 u5 u7 u8 u9 u10 u11 u12 u13 u14 u15 u16 u17 u18 u19 u20 u29 u30 u31 u33 u34 u36 u37 u38 u39 u40 u41 u42 u43 u44 u45 u46 u47 u48 u49 u50 u51 u52 u53 u54 u55 u56 u57 u58 u59 u60 u61 u62 u63 u64 u65 u66 u67 u68 u69 u70 u71 u72 u73 u74 u75 u76 u77 u78 u79 u80 u81 u82 u83 u84 u85 u86 u87 u88 u89 u90 u91 u92 u93 u94 u95 u96 u97 u98 u99 u100 u101 u102 u103 u104 u105 u106 u107 u108 u109 u110 u111 u112 u113 u114 u115 u116 u117 u118 u119 u120 u121 u122 u123 u124 u125 u126 u127 u128 u129 u130 u131 u132 u133 u134 u135 u136 u137 u138 u139 u140 u141 u142 u143 u144 u145 u146 u147 u148 u149 u150 u151 u152 u153 u154 u155 u156 u157 u158 u159 u160 u161 u162 u163 u164 u165 u166 u167 u168 u169 u170 u171 u172 u173 u174 u175 u176 u177 u178 u179 u180 u181 u182 u183 u184 u185 u186 u187 u188 u189 u190 u191 u192 u193 u194 u195 u196 u197 u198 u199 u200 u201 u202 u203 u204 u205 u206 u207 u208 u209 u210 u211 u212 u213 u214 u215 u216 u217 u218 u219 u220 u221 u222 u223 u224 u225 u226 u227 u228 u229 u230 u231 u232 u233 u234 u235 u236 u237 u238 u239 u240 u241 u242 u243 u244 u245 u246 u247 u248 u249 u250 u251 u252 u253 u254 u255 u256 u257 u258 u259 u260 u261 u262 u263 u264 u265 u266 u267 u268 u269 u270 u271 u272 u273 u274 u275 u276 u277 u278 u279 u280 u281 u282 u283 u284 u285 u286 u287 u288 u289 u290 u291 u292 u293 u294 u295 u296 u297 u298 u299 u300 u301 u302 u303 u304 u305 u306 u307 u308 u309 u310 u311 u312 u313 u314 u315 u316 u317 u318 u319 u320 u321 u322 u323 u324 u325 u326 u327 u328 u329 u330 u331 u332 u333 u334 u335 u336 u337 u338 u339 u340 u341 u342 u343 u344 u345 u346 u347 : Value) (nm : ByteArray) (pol : Int) (CL : Bool) (B mm f q p n k : Nat) (ao al : Option Addr) (c cl : Nat) (hs : List Hd) (ls : List Lk) (HS : List Hd) (LS : List Lk) (HC : Nat → Int) (w wx : World) (hw : w.heap.size = B) (hnb : n ≤ 70000) (hkb : k ≤ 70000) (hmm : 1 ≤ mm ∧ mm ≤ 3) (hcl : CL = false → 0 < k)
    (hM : MidR false B nm pol hs ls w f q p n k ao al c cl HS LS HC wx) :
    Code.wp Yba.prog (dropSeq 18 (Yba.f4.body.getD .skip)) (bodyPost Yba.prog Yba.f4 fun e w' => e = .returned (.bool true) ∧ Below w.heap.size w w') ⟨#[u0, .string nm, u2, u3, u4, u5, .bool false, u7, u8, u9, u10, u11, u12, u13, u14, u15, u16, u17, u18, u19, u20, .int .u8 pol, pt B, pt (B + 1), pt (B + 2), pt (B + 3), .int .u8 mm, .int .i64 k, .int .i64 n, u29, u30, u31, .int .u8 0, u33, u34, .bool CL, u36, u37, u38, u39, u40, u41, u42, u43, u44, u45, u46, u47, u48, u49, u50, u51, u52, u53, u54, u55, u56, u57, u58, u59, u60, u61, u62, u63, u64, u65, u66, u67, u68, u69, u70, u71, u72, u73, u74, u75, u76, u77, u78, u79, u80, u81, u82, u83, u84, u85, u86, u87, u88, u89, u90, u91, u92, u93, u94, u95, u96, u97, u98, u99, u100, u101, u102, u103, u104, u105, u106, u107, u108, u109, u110, u111, u112, u113, u114, u115, u116, u117, u118, u119, u120, u121, u122, u123, u124, u125, u126, u127, u128, u129, u130, u131, u132, u133, u134, u135, u136, u137, u138, u139, u140, u141, u142, u143, u144, u145, u146, u147, u148, u149, u150, u151, u152, u153, u154, u155, u156, u157, u158, u159, u160, u161, u162, u163, u164, u165, u166, u167, u168, u169, u170, u171, u172, u173, u174, u175, u176, u177, u178, u179, u180, u181, u182, u183, u184, u185, u186, u187, u188, u189, u190, u191, u192, u193, u194, u195, u196, u197, u198, u199, u200, u201, u202, u203, u204, u205, u206, u207, u208, u209, u210, u211, u212, u213, u214, u215, u216, u217, u218, u219, u220, u221, u222, u223, u224, u225, u226, u227, u228, u229, u230, u231, u232, u233, u234, u235, u236, u237, u238, u239, u240, u241, u242, u243, u244, u245, u246, u247, u248, u249, u250, u251, u252, u253, u254, u255, u256, u257, u258, u259, u260, u261, u262, u263, u264, u265, u266, u267, u268, u269, u270, u271, u272, u273, u274, u275, u276, u277, u278, u279, u280, u281, u282, u283, u284, u285, u286, u287, u288, u289, u290, u291, u292, u293, u294, u295, u296, u297, u298, u299, u300, u301, u302, u303, u304, u305, u306, u307, u308, u309, u310, u311, u312, u313, u314, u315, u316, u317, u318, u319, u320, u321, u322, u323, u324, u325, u326, u327, u328, u329, u330, u331, u332, u333, u334, u335, u336, u337, u338, u339, u340, u341, u342, u343, u344, u345, u346, u347], []⟩ wx := by
  obtain ⟨i88, hi88, hz0, hz1, hz2⟩ := info_parts info88
  obtain ⟨j90, ji90, jz0, jz1, jz2⟩ := info_parts info90
  have HW : Hid (w.heap.size = B) := hw
  clear hw
  have c5 := hM.st.sys.c5
  have lo := hM.st.sys.lo
  rw [hM.hk] at lo
  have ho := hM.st.sys.ho
  rw [hM.hn] at ho
  conv => arg 2; whnf
  go_wp2_with fail
  refine (cloneL_any k cl (B + 4) LS _ hM.k0 hM.hk (by omega) lo).mono ?_
  rintro e w4 ⟨al4, cl4, rfl, lb4, hch4⟩
  have S4 := hM.st.more hch4
  have c3 := S4.sys.c3
  have ho4 := hch4.own ho (by simp)
  clear c5 lo
  go_wp2_with fail
  refine (cloneH_any n c (B + 4) HS _ hM.h0 hM.hn (by omega) ho4).mono ?_
  rintro e w5 ⟨al5, cl5, rfl, hb5, hch5⟩
  have S5 := S4.more hch5
  have d0 : w5.cell? ⟨B + 3, 8, none⟩ = some (.int .i64 (HC 0)) := S5.sys.cnt (m := 0) (by omega)
  have d1 : w5.cell? ⟨B + 3, 9, none⟩ = some (.int .i64 (HC 1)) := S5.sys.cnt (m := 1) (by omega)
  have d2 : w5.cell? ⟨B + 3, 10, none⟩ = some (.int .i64 (HC 2)) := S5.sys.cnt (m := 2) (by omega)
  have d3 : w5.cell? ⟨B + 3, 11, none⟩ = some (.int .i64 (HC 3)) := S5.sys.cnt (m := 3) (by omega)
  clear c3 ho4 ho
  go_wp2_with fail
  have hch6 : Chg [] w5 (w5.alloc (.cells #[.int .i64 (HC 0), .int .i64 (HC 1), .int .i64 (HC 2), .int .i64 (HC 3)] 83)) := (Chg.refl [] w5).alloc _
  have cb6 : (w5.alloc (.cells #[.int .i64 (HC 0), .int .i64 (HC 1), .int .i64 (HC 2), .int .i64 (HC 3)] 83)).rowIs w5.heap.size 83 4 (fun j => .int .i64 (HC j)) := World.rowIs_alloc w5 #[.int .i64 (HC 0), .int .i64 (HC 1), .int .i64 (HC 2), .int .i64 (HC 3)] 83 _ (by
    intro j hj
    match j, hj with
    | 0, _ | 1, _ | 2, _ | 3, _ => rfl)
  refine (mid_first (cl0 := CL) (m := mm) hM ((hch4.trans hch5).trans hch6) (by omega) (by omega) (by omega) hcl).mono ?_
  rintro e w7 ⟨rfl, hD⟩
  obtain ⟨hbk, hhb⟩ : ∃ hbk, hbk = w5.heap.size := ⟨_, rfl⟩
  rw [← hhb] at cb6 ⊢
  rw [← hM.hk] at lb4
  rw [← hM.hn] at hb5
  obtain ⟨g', c', gl', cl', gL, cL, A⟩ := aft_of_done hM.st.sys hM.st.bel hM.st.size hch4 hch5 hch6 lb4 hb5 hhb cb6 hD
  have hn := hM.hn
  have hk := hM.hk
  have hbd := hM.st.cnt
  rw [List.length_append, List.length_append, List.length_singleton, List.length_singleton, hn, hk] at A
  obtain ⟨E, hE⟩ : ∃ E, E = upTo pol CL LS := ⟨_, rfl⟩
  rw [← hE] at A
  have HA : Hid (Aft B nm mm w hbk g' c' (n + 1) gl' cl' (k + 1) (HS ++ [⟨B + 2, mm, k⟩]) (LS ++ [⟨B + 3, n, E⟩]) (upd HC mm (HC mm + 1)) (.slice al4 k cl4) (.slice al5 n cl5) LS HS HC gL cL w7) := A
  have HE : Hid (E = upTo pol CL LS) := hE
  clear hD lb4 hb5 cb6 hch4 hch5 hch6 S4 S5 d0 d1 d2 d3 hhb A hM hE
  go_upto_if 213 with fail
  go_cut [36, 37] (fun s36 s37 wz => ∃ (gB' cB gC' cC : Nat), s36 = .slice (some ⟨gB', 0, none⟩) (k + 1) cB ∧ s37 = .slice (some ⟨gC', 0, none⟩) (n + 1) cC ∧ Aft B nm mm w hbk g' c' (n + 1) gl' cl' (k + 1) (HS ++ [⟨B + 2, mm, k⟩]) (LS ++ [⟨B + 3, n, E⟩]) (upd HC mm (HC mm + 1)) (.slice (some ⟨gB', 0, none⟩) (k + 1) cB) (.slice (some ⟨gC', 0, none⟩) (n + 1) cC) (LS ++ [⟨B + 3, n, E⟩]) (HS ++ [⟨B + 2, mm, k⟩]) (upd HC mm (HC mm + 1)) gL cL wz)
  case first =>
    have A0 := HA.out
    have k2 := A0.cb.cell (i := mm) (by omega)
    have f2 := A0.cb.frozen mm
    obtain ⟨b1, b2⟩ := hbd mm
    have A1 := A0.setC mm (HC mm + 1)
    clear A0 HA hbd
    go_upto_region 43 with fail
    generalize (w7.setCell ⟨hbk, mm, none⟩ (.int .i64 (HC mm + 1))) = W8 at *
    clear k2 f2
    have hb := A1.hb
    rw [hn] at hb
    have hz8 := A1.size
    go_upto_if 242 with (at_builtin; refine wpList_append_lies _ rfl (.tmp 234) (.tmp 239) 81 rfl (B + 4) 88 i88 _ 4 24 Yba.underlying81 hi88 hz0 hz1 hz2 rfl (by decide) _ n (flat encH HS) rfl (hb.alloc _) ⟨W8.heap.size, 0, none⟩ 1 1 (encH ⟨B + 2, mm, k⟩) rfl rfl (World.news_of_block (by exact heap_alloc_new W8 _)) (encH_one _) (by decide) (by unfold maxLen; omega) (by omega) (by simp; omega) _ rfl ?_)
    intro gC cC w9 hown9 hgrow9 hat9 hlt9
    have hchg9 : Chg (Value.slice al5 n cl5).ownBlock.toList W8 w9 := ((Chg.refl _ W8).alloc _).grown hgrow9 (by intro k hk _; rw [Option.mem_toList]; exact hk)
    have A2 := A1.pushH hchg9 (x := ⟨B + 2, mm, k⟩) (gC := gC) (cC := cC) (by rw [hn]; exact hown9) (by rcases hat9 with h | h; exact .inl h; exact .inr (by rw [h]; simp))
    rw [hn] at A2
    clear hown9 hgrow9 hat9 hlt9 hchg9 A1 hb hz8
    go_upto_if 242 with fail
    go_cut [39] (fun s39 wz => s39 = .int .i64 E ∧ w9 = wz)
    case first => as_aux_lemma =>
      by_cases hp6 : pol = 6
      · have hpb : (pol == 6) = true := by simp [hp6]
        have H6 : Hid (pol = 6) := hp6
        clear hp6
        cases CL with
        | true => as_aux_lemma =>
          go_wp2_with fail
          go_meet
          case rel => exact ⟨by rw [HE.out, H6.out]; simp [upTo, hk], rfl⟩
        | false => as_aux_lemma =>
          have hk0 := hcl rfl
          obtain ⟨k', rfl⟩ : ∃ k', k = k' + 1 := ⟨k - 1, by omega⟩
          have lb := A2.lb
          rw [hk] at lb
          obtain ⟨gB, rfl⟩ : ∃ gB, al4 = some ⟨gB, 0, none⟩ := by
            obtain ⟨g, c', e, _⟩ := lb.form (by omega)
            injection e with e1
            exact ⟨g, e1⟩
          have hu : w9.cell? ⟨gB, k' * 3 + 2, none⟩ = some (.int .i64 E) := by
            rw [lb.cellAt (k' * 3 + 2) (by omega), flat_get encL_len LS (by omega) (show 2 < 3 by omega), HE.out, H6.out]
            have : upTo 6 false LS = (LS[k']'(by omega)).u := by
              simp only [upTo, if_true, Bool.false_eq_true, if_false, hk, Nat.add_sub_cancel]
              rw [List.getD_eq_getElem?_getD, List.getElem?_eq_getElem (by omega)]
              rfl
            rw [this]
            rfl
          clear lb
          go_wp2_with fail
          go_meet
          case rel => exact ⟨rfl, rfl⟩
      · have hpb : (pol == 6) = false := by simp [hp6]
        have H6 : Hid (¬ pol = 6) := hp6
        clear hp6
        go_wp2_with fail
        go_meet
        case rel => exact ⟨by rw [HE.out]; simp [upTo, H6.out], rfl⟩
    case rest => as_aux_lemma =>
      obtain ⟨rfl, rfl⟩ := hcut
      have lb := A2.lb
      rw [hk] at lb
      have hz9 := A2.size
      go_wp2_with (at_builtin; refine wpList_append_lies _ rfl (.tmp 251) (.tmp 256) 77 rfl (B + 4) 90 j90 _ 3 24 Yba.underlying77 ji90 jz0 jz1 jz2 rfl (by decide) _ k (flat encL LS) rfl (lb.alloc _) ⟨w9.heap.size, 0, none⟩ 1 1 (encL ⟨B + 3, n, E⟩) rfl rfl (World.news_of_block (by exact heap_alloc_new w9 _)) (encL_one _) (by decide) (by unfold maxLen; omega) (by omega) (by simp; omega) _ rfl ?_)
      intro gB cB w10 hown10 hgrow10 hat10 hlt10
      have hchg10 : Chg (Value.slice al4 k cl4).ownBlock.toList w9 w10 := ((Chg.refl _ w9).alloc _).grown hgrow10 (by intro k hk _; rw [Option.mem_toList]; exact hk)
      have A3 := A2.pushL hchg10 (x := ⟨B + 3, n, E⟩) (gC := gB) (cC := cB) (by rw [hk]; exact hown10) (by rcases hat10 with h | h; exact .inl h; exact .inr (by rw [h]; simp))
      rw [hk] at A3
      clear hown10 hgrow10 hat10 hlt10 hchg10 A2 lb hz9
      go_wp2_with fail
      go_meet
      case rel => exact ⟨gB, cB, gC, cC, rfl, rfl, A3⟩
  case rest =>
    obtain ⟨gB', cB, gC', cC, rfl, rfl, A⟩ := hcut
    apply_assumption
    exact tail50 _ _ _ _ _ _ _ _ _ _ _ _ _ _ _ _ _ _ _ _ _ _ _ _ _ _ _ _ _ _ _ _ _ _ _ _ _ _ _ _ _ _ _ _ _ _ _ _ _ _ _ _ _ _ _ _ _ _ _ _ _ _ _ _ _ _ _ _ _ _ _ _ _ _ _ _ _ _ _ _ _ _ _ _ _ _ _ _ _ _ _ _ _ _ _ _ _ _ _ _ _ _ _ _ _ _ _ _ _ _ _ _ _ _ _ _ _ _ _ _ _ _ _ _ _ _ _ _ _ _ _ _ _ _ _ _ _ _ _ _ _ _ _ _ _ _ _ _ _ _ _ _ _ _ _ _ _ _ _ _ _ _ _ _ _ _ _ _ _ _ _ _ _ _ _ _ _ _ _ _ _ _ _ _ _ _ _ _ _ _ _ _ _ _ _ _ _ _ _ _ _ _ _ _ _ _ _ _ _ _ _ _ _ _ _ _ _ _ _ _ _ _ _ _ _ _ _ _ _ _ _ _ _ _ _ _ _ _ _ _ _ _ _ _ _ _ _ _ _ _ _ _ _ _ _ _ _ _ _ _ _ _ _ _ _ _ _ _ _ _ _ _ _ _ _ _ _ _ _ _ _ _ _ _ _ _ _ _ _ _ _ _ _ _ _ _ _ _ _ _ _ _ _ _ _ _ _ _ _ _ _ _ _ _ _ _ _ _ _ _ _ _ _ _ _ _ _ _ _ _ _ _ _ _ _ _ _ _ _ _ nm mm B hbk g' c' (n + 1) gl' cl' (k + 1) gB' cB gC' cC gL cL _ _ _ w wc HW.out (by omega) (by omega) (by omega) (by omega) A
end Go.Proofs.Ybulkdkve.lawS5594CWhole

import Derived.Test.YbulkdkveCSegC
namespace Go.Proofs.Ybulkdkve.lawS5594CWhole
open Go.RowKit Go.Deep
set_option linter.unusedVariables false
set_option linter.unusedSimpArgs false

theorem Stage.wide {B : Nat} {tz rz : Nat → Value} {nm : ByteArray} {pol : Int} {hv lv : Value} {hs : List Hd} {ls : List Lk} {hs0 : List Hd} {ls0 : List Lk} {hc : Nat → Int} {N N' : Int} {w wr : World} (p : Stage B tz rz nm pol hv lv hs ls hs0 ls0 hc N w wr) (h : N ≤ N') : Stage B tz rz nm pol hv lv hs ls hs0 ls0 hc N' w wr :=
  ⟨p.sys, p.tab, p.gh, p.gl, p.bel, p.size, fun j => by have := p.cnt j; omega⟩

set_option maxRecDepth 100000 in
set_option maxHeartbeats 4000000 in
theorem segB (u0 u2 u4 u5 u10 u11 u12 u13 u14 u15 u16 u17 u18 u19 u20 u29 u30 u31 u32 u33 u34 u35 u36 u37 u38 u39 u40 u41 u42 u43 u44 u45 u46 u47 u48 u49 u50 u51 u52 u53 u54 u55 u56 u57 u58 u59 u60 u61 u62 u63 u64 u65 u66 u67 u68 u69 u70 u71 u72 u73 u74 u75 u76 u77 u78 u79 u80 u81 u82 u83 u84 u85 u86 u87 u88 u89 u90 u91 u92 u93 u94 u95 u96 u97 u98 u99 u100 u101 u102 u103 u104 u105 u106 u107 u108 u109 u110 u111 u112 u113 u114 u115 u116 u117 u118 u119 u120 u121 u122 u123 u124 u125 u126 u127 u128 u129 u130 u131 u132 u133 u134 u135 u136 u137 u138 u139 u140 u141 u142 u143 u144 u145 u146 u147 u148 u149 u150 u151 u152 u153 u154 u155 u156 u157 u158 u159 u160 u161 u162 u163 u164 u165 u166 u167 u168 u169 u170 u171 u172 u173 u174 u175 u176 u177 u178 u179 u180 u181 u182 u183 u184 u185 u186 u187 u188 u189 u190 u191 u192 u193 u194 u195 u196 u197 u198 u199 u200 u201 u202 u203 u204 u205 u206 u207 u208 u209 u210 u211 u212 u213 u214 u215 u216 u217 u218 u219 u220 u221 u222 u223 u224 u225 u226 u227 u228 u229 u230 u231 u232 u233 u234 u235 u236 u237 u238 u239 u240 u241 u242 u243 u244 u245 u246 u247 u248 u249 u250 u251 u252 u253 u254 u255 u256 u257 u258 u259 u260 u261 u262 u263 u264 u265 u266 u267 u268 u269 u270 u271 u272 u273 u274 u275 u276 u277 u278 u279 u280 u281 u282 u283 u284 u285 u286 u287 u288 u289 u290 u291 u292 u293 u294 u295 u296 u297 u298 u299 u300 u301 u302 u303 u304 u305 u306 u307 u308 u309 u310 u311 u312 u313 u314 u315 u316 u317 u318 u319 u320 u321 u322 u323 u324 u325 u326 u327 u328 u329 u330 u331 u332 u333 u334 u335 u336 u337 u338 u339 u340 u341 u342 u343 u344 u345 u346 u347 : Value) (nm : ByteArray) (pol : Int) (a3 a6 : Bool) (a7 a8 a9 : Int) (B mm i k : Nat) (ao al : Option Addr) (c cl : Nat) (hs : List Hd) (ls : List Lk) (hc : Nat → Int) (w wr : World) (hw : w.heap.size = B) (hlen : k + i ≤ 65536) (hmm : 1 ≤ mm ∧ mm ≤ 3)
    (b7 : 0 ≤ a7 ∧ a7 ≤ 255) (b8 : 0 ≤ a8 ∧ a8 ≤ 65535) (b9 : 0 ≤ a9 ∧ a9 ≤ 65535) (hn : hs.length = i) (hk : ls.length = k) (hao : i = 0 → ao = none) (hal : k = 0 → al = none)
    (hph : Phase B tz0 rz0 nm pol (.slice ao i c) (.slice al k cl) hs ls hc i w wr) :
    Code.wp Yba.prog (dropSeq 13 (Yba.f4.body.getD .skip)) (bodyPost Yba.prog Yba.f4 fun e w' => e = .returned (.bool true) ∧ Below w.heap.size w w') ⟨#[u0, .string nm, u2, .bool a3, u4, u5, .bool a6, .int .u8 a7, .int .u16 a8, .int .u16 a9, u10, u11, u12, u13, u14, u15, u16, u17, u18, u19, u20, .int .u8 pol, pt B, pt (B + 1), pt (B + 2), pt (B + 3), .int .u8 mm, .int .i64 k, .int .i64 i, u29, u30, u31, u32, u33, u34, u35, u36, u37, u38, u39, u40, u41, u42, u43, u44, u45, u46, u47, u48, u49, u50, u51, u52, u53, u54, u55, u56, u57, u58, u59, u60, u61, u62, u63, u64, u65, u66, u67, u68, u69, u70, u71, u72, u73, u74, u75, u76, u77, u78, u79, u80, u81, u82, u83, u84, u85, u86, u87, u88, u89, u90, u91, u92, u93, u94, u95, u96, u97, u98, u99, u100, u101, u102, u103, u104, u105, u106, u107, u108, u109, u110, u111, u112, u113, u114, u115, u116, u117, u118, u119, u120, u121, u122, u123, u124, u125, u126, u127, u128, u129, u130, u131, u132, u133, u134, u135, u136, u137, u138, u139, u140, u141, u142, u143, u144, u145, u146, u147, u148, u149, u150, u151, u152, u153, u154, u155, u156, u157, u158, u159, u160, u161, u162, u163, u164, u165, u166, u167, u168, u169, u170, u171, u172, u173, u174, u175, u176, u177, u178, u179, u180, u181, u182, u183, u184, u185, u186, u187, u188, u189, u190, u191, u192, u193, u194, u195, u196, u197, u198, u199, u200, u201, u202, u203, u204, u205, u206, u207, u208, u209, u210, u211, u212, u213, u214, u215, u216, u217, u218, u219, u220, u221, u222, u223, u224, u225, u226, u227, u228, u229, u230, u231, u232, u233, u234, u235, u236, u237, u238, u239, u240, u241, u242, u243, u244, u245, u246, u247, u248, u249, u250, u251, u252, u253, u254, u255, u256, u257, u258, u259, u260, u261, u262, u263, u264, u265, u266, u267, u268, u269, u270, u271, u272, u273, u274, u275, u276, u277, u278, u279, u280, u281, u282, u283, u284, u285, u286, u287, u288, u289, u290, u291, u292, u293, u294, u295, u296, u297, u298, u299, u300, u301, u302, u303, u304, u305, u306, u307, u308, u309, u310, u311, u312, u313, u314, u315, u316, u317, u318, u319, u320, u321, u322, u323, u324, u325, u326, u327, u328, u329, u330, u331, u332, u333, u334, u335, u336, u337, u338, u339, u340, u341, u342, u343, u344, u345, u346, u347], []⟩ wr := by
  obtain ⟨b71, b72⟩ := b7
  obtain ⟨b81, b82⟩ := b8
  obtain ⟨b91, b92⟩ := b9
  have HB : Hid (w.heap.size = B) := hw
  have hilen : i ≤ 65536 := by omega
  have hklen : k ≤ 65536 := by omega
  clear hw
  conv => arg 2; whnf
  go_upto_if 132 with fail
  go_cut [32, 33, 34] (fun s32 s33 s34 wx => ∃ (f q p n k' : Nat) (ao al : Option Addr) (c cl : Nat) (HS : List Hd) (LS : List Lk) (HC : Nat → Int), s32 = .int .u8 f ∧ s33 = .int .i64 q ∧ s34 = .int .i64 p ∧ n ≤ 70000 ∧ k' ≤ 70000 ∧ MidR a6 B nm pol hs ls w f q p n k' ao al c cl HS LS HC wx)
  case first =>
    cases a6 with
    | true => as_aux_lemma =>
      obtain ⟨f, hf⟩ : ∃ f : Nat, a7 % 3 + 1 = (f : Int) := ⟨(a7 % 3 + 1).toNat, by omega⟩
      have hf1 : 1 ≤ f ∧ f ≤ 3 := by omega
      obtain ⟨q, hq⟩ : ∃ q : Nat, a8 % ((k : Int) + 1) = (q : Int) := ⟨(a8 % ((k : Int) + 1)).toNat, by have := Int.emod_nonneg a8 (show (k : Int) + 1 ≠ 0 by omega); omega⟩
      have hq1 : q ≤ k := by have := Int.emod_lt_of_pos a8 (show (0 : Int) < (k : Int) + 1 by omega); omega
      obtain ⟨p, hp⟩ : ∃ p : Nat, a9 % ((i : Int) + 1) = (p : Int) := ⟨(a9 % ((i : Int) + 1)).toNat, by have := Int.emod_nonneg a9 (show (i : Int) + 1 ≠ 0 by omega); omega⟩
      have hp1 : p ≤ i := by have := Int.emod_lt_of_pos a9 (show (0 : Int) < (i : Int) + 1 by omega); omega
      have c5 := hph.sys.c5
      have lo := hph.sys.lo
      rw [hk] at lo
      have hsz := hph.size
      have hne : (Value.slice al k cl).ownBlock ≠ some wr.heap.size := by intro hm; have := hph.sys.llt hm; omega
      have HQ : Hid (a7 % 3 + 1 = (f : Int) ∧ a8 % ((k : Int) + 1) = (q : Int) ∧ a9 % ((i : Int) + 1) = (p : Int)) := ⟨hf, hq, hp⟩
      go_wp2_with fail
      refine (insertL_any k q cl wr.heap.size (B + 4) ls ⟨B + 3, p, 0⟩ _ hk hq1 (by omega) (by simp; omega) hne (by exact lo.alloc _) (by exact heap_alloc_new wr _)).mono ?_
      rintro e w1 ⟨gl1, cl1, rfl, hown1, hch1⟩
      have hchA : Chg (Value.slice al k cl).ownBlock.toList wr w1 := ((Chg.refl [] wr).alloc _).trans hch1
      obtain ⟨k5, f5⟩ := hph.sys.t5 hchA
      have S1 := hph.stage.putL hchA (ls' := ins ls ⟨B + 3, p, 0⟩ q) (by rw [ins_length _ _ _ (by omega), hk]; exact hown1)
      have H1 : Hid (Stage B tz0 rz0 nm pol (.slice ao i c) (.slice (some ⟨gl1, 0, none⟩) (k + 1) cl1) hs (ins ls ⟨B + 3, p, 0⟩ q) hs ls hc i w (w1.setCell ⟨B + 2, 5, none⟩ (.slice (some ⟨gl1, 0, none⟩) (k + 1) cl1))) := S1
      clear c5 lo hne hown1 hch1 hchA S1 hph hsz
      go_upto_region 31 with fail
      generalize (w1.setCell ⟨B + 2, 5, none⟩ (.slice (some ⟨gl1, 0, none⟩) (k + 1) cl1)) = W1 at *
      clear k5 f5
      have S1 := H1.out
      have c3 := S1.sys.c3
      have ho := S1.sys.ho
      rw [hn] at ho
      have hsz := S1.size
      have hne : (Value.slice ao i c).ownBlock ≠ some W1.heap.size := by intro hm; have := S1.sys.hlt hm; omega
      go_wp2_with fail
      refine (insertH_any i p c W1.heap.size (B + 4) hs ⟨B + 2, f, q⟩ _ hn hp1 (by omega) (by simp; omega) hne (by exact ho.alloc _) (by exact heap_alloc_new W1 _)).mono ?_
      rintro e w2 ⟨g2, c2, rfl, hown2, hch2⟩
      have hchB : Chg (Value.slice ao i c).ownBlock.toList W1 w2 := ((Chg.refl [] W1).alloc _).trans hch2
      obtain ⟨k3, f3⟩ := S1.sys.r3 hchB
      have S2 := S1.putH hchB (hs' := ins hs ⟨B + 2, f, q⟩ p) (by rw [ins_length _ _ _ (by omega), hn]; exact hown2)
      have H2 : Hid (Stage B tz0 rz0 nm pol (.slice (some ⟨g2, 0, none⟩) (i + 1) c2) (.slice (some ⟨gl1, 0, none⟩) (k + 1) cl1) (ins hs ⟨B + 2, f, q⟩ p) (ins ls ⟨B + 3, p, 0⟩ q) hs ls hc i w (w2.setCell ⟨B + 3, 3, none⟩ (.slice (some ⟨g2, 0, none⟩) (i + 1) c2))) := S2
      clear c3 ho hne hown2 hch2 hchB S2 S1 H1 hsz
      go_upto_region 32 with fail
      generalize (w2.setCell ⟨B + 3, 3, none⟩ (.slice (some ⟨g2, 0, none⟩) (i + 1) c2)) = W2 at *
      clear k3 f3
      have S2 := H2.out
      have hcm := S2.sys.cnt (m := f) (by omega)
      have fR := S2.sys.r.frozen
      obtain ⟨bc1, bc2⟩ := S2.cnt f
      go_region
      have S3 := S2.count (m := f) (by omega)
      generalize (W2.setCell ⟨B + 3, 8 + f, none⟩ (.int .i64 (hc f + 1))).drew = W3 at *
      clear hcm fR bc1 bc2 S2 H2
      go_wp2_with fail
      go_meet
      case rel => exact ⟨f, q, p, i + 1, k + 1, some ⟨g2, 0, none⟩, some ⟨gl1, 0, none⟩, c2, cl1, _, _, _, by first | rfl | rw [HQ.out.1], by first | rfl | rw [HQ.out.2.1], by first | rfl | rw [HQ.out.2.2], by omega, by omega, ⟨S3.wide (by omega), by rw [ins_length _ _ _ (by omega), hn], by rw [ins_length _ _ _ (by omega), hk], by omega, by omega, fun _ => ⟨by omega, by omega, by omega, by omega, rfl, rfl⟩, (fun h => by cases h)⟩⟩
    | false => as_aux_lemma =>
      go_wp2_with fail
      go_meet
      case rel => exact ⟨0, 0, 0, i, k, ao, al, c, cl, hs, ls, hc, rfl, rfl, rfl, by omega, by omega, ⟨hph.stage.wide (by omega), hn, hk, hao, hal, (fun h => by cases h), fun _ => ⟨rfl, rfl, rfl⟩⟩⟩
  case rest => as_aux_lemma =>
    clear hph hao hal
    obtain ⟨f, q, p, n', k', ao', al', c', cl', HS, LS, HC, rfl, rfl, rfl, hn', hk', hM⟩ := hcut
    apply_assumption
    subst hn
    subst hk
    exact segC _ _ _ _ _ _ _ _ _ _ _ _ _ _ _ _ _ _ _ _ _ _ _ _ _ _ _ _ _ _ _ _ _ _ _ _ _ _ _ _ _ _ _ _ _ _ _ _ _ _ _ _ _ _ _ _ _ _ _ _ _ _ _ _ _ _ _ _ _ _ _ _ _ _ _ _ _ _ _ _ _ _ _ _ _ _ _ _ _ _ _ _ _ _ _ _ _ _ _ _ _ _ _ _ _ _ _ _ _ _ _ _ _ _ _ _ _ _ _ _ _ _ _ _ _ _ _ _ _ _ _ _ _ _ _ _ _ _ _ _ _ _ _ _ _ _ _ _ _ _ _ _ _ _ _ _ _ _ _ _ _ _ _ _ _ _ _ _ _ _ _ _ _ _ _ _ _ _ _ _ _ _ _ _ _ _ _ _ _ _ _ _ _ _ _ _ _ _ _ _ _ _ _ _ _ _ _ _ _ _ _ _ _ _ _ _ _ _ _ _ _ _ _ _ _ _ _ _ _ _ _ _ _ _ _ _ _ _ _ _ _ _ _ _ _ _ _ _ _ _ _ _ _ _ _ _ _ _ _ _ _ _ _ _ _ _ _ _ _ _ _ _ _ _ _ _ _ _ _ _ _ _ _ _ _ _ _ _ _ _ _ _ _ _ _ _ _ _ _ _ _ _ _ _ _ _ _ _ _ _ _ _ _ _ _ _ _ _ _ _ _ _ _ _ _ _ _ _ _ _ _ _ _ _ nm pol a3 a6 B mm f q p n' k' ao' al' c' cl' hs ls HS LS HC w wc HB.out hn' hk' hmm (by omega) hM
end Go.Proofs.Ybulkdkve.lawS5594CWhole

import Derived.Test.YbulkdkwuMid
import Derived.Laws.Tables
namespace Go.Proofs.Ybulkdkwu.lawS5597AWhole
open Go.RowKit Go.Deep
set_option linter.unusedVariables false
set_option linter.unusedSimpArgs false

theorem built55b (bs ds : Int) (l1 l2 l3 l4 : Array Value) (pp : Option Addr) (n : Int) (sa : Option Addr) (ns cs : Nat) : Yba.prog.built 55 [(0, .int .i64 bs), (1, .int .i64 ds), (2, .func (.func 6) l1 l2), (3, .func (.func 8) l3 l4), (4, .pointer pp), (5, .int .u64 n), (6, .slice sa ns cs)] = some #[.int .i64 bs, .int .i64 ds, .func (.func 6) l1 l2, .func (.func 8) l3 l4, .pointer pp, .int .u64 n, .slice sa ns cs] := by
  kernel_rfl

theorem wpList_built {ops : Array Oper} {rest : List Oper} {o : Oper} {a : Act} {w : World} {Q : Exit → Act → World → Prop} (hg : o.guard = none) (t : TypeId) (parts : Array (Nat × Operand)) (ho : o.op = .build t parts) (cells : Array Value)
    (hc : Yba.prog.built t (parts.map fun (i, x) => (i, a.eval x)).toList = some cells) (h : wpList Yba.prog ops Q rest (a.put o.dst (.agg cells)) w) : wpList Yba.prog ops Q (o :: rest) a w :=
  wpList_build hg t parts ho (by rw [hc]; rfl) (by rw [hc]; exact h)

set_option maxRecDepth 100000 in
set_option maxHeartbeats 4000000 in
theorem segE (u0 u1 u6 u8 u9 u10 u11 u12 u13 u15 u16 u29 u30 u31 u32 u33 u34 u35 u36 u37 u38 u39 u40 u41 u42 u43 u44 u45 u46 u47 u48 u49 u50 u51 u52 u53 u54 u55 u56 u57 u58 u59 u60 u61 u62 u63 u64 u65 u66 u67 u68 u69 u70 u71 u72 u73 u74 u75 u76 u77 u78 u79 u80 u81 u82 u83 u84 u85 u86 u87 u88 u89 u90 u91 u92 u93 u94 u95 u96 u97 u98 u99 u100 u101 u102 u103 u104 u105 u106 u107 u108 u109 u110 u111 u112 u113 u114 u115 u116 u117 u118 u119 u120 u121 u122 u123 u124 u125 u126 u127 u128 u129 u130 u131 u132 u133 u134 u135 u136 u137 u138 u139 u140 u141 u142 u143 u144 u145 u146 u147 u148 u149 u150 u151 u152 u153 u154 u155 u156 u157 u158 u159 u160 u161 u162 u163 u164 u165 u166 u167 u168 u169 u170 u171 u172 u173 u174 u175 u176 u177 u178 u179 u180 u181 u182 u183 u184 u185 u186 u187 u188 u189 u190 u191 u192 u193 u194 u195 u196 u197 u198 u199 u200 u201 u202 u203 u204 u205 u206 u207 u208 u209 u210 u211 u212 u213 u214 u215 u216 u217 u218 u219 u220 u221 u222 u223 u224 u225 u226 u227 u228 u229 u230 u231 u232 u233 u234 u235 u236 u237 u238 u239 u240 u241 u242 u243 u244 u245 u246 u247 u248 u249 u250 u251 u252 u253 u254 u255 u256 u257 u258 u259 u260 u261 u262 u263 u264 u265 u266 u267 u268 u269 u270 u271 u272 u273 u274 u275 u276 u277 u278 u279 u280 u281 u282 : Value) (a4 a5 : Bool) (n F : Int) (fa dsb fb lvb logb cb pb eb sb ds bs L c3 cd ns cs c7 : Nat) (op : Value) (a3 a7 sa ad : Option Addr) (D D2 : Nat → Int) (w W : World)
    (hn : 0 ≤ n ∧ n ≤ 18446744073709551615) (hF : -9223372036854775808 ≤ F ∧ F ≤ 9223372036854775807) (hds : 0 < ds ∧ ds ≤ 8) (hbs : 0 < bs ∧ bs ≤ 16) (hL : L ≤ 65536) (hns : ns ≤ 65536) (hc3 : L ≤ c3)
    (hD : ∀ t, t < L → 0 ≤ D t ∧ D t ≤ 255) (i3 : Inc w a3 L D) (i7 : Inc w a7 ns D2)
    (m : Mid bs ds lvb dsb cb logb fa fb pb eb L cd ns cs F op (if a5 = true then .iface 60 (pt sb) else .nilIface) sa ad a7 a4 D D2 w W) :
    Code.wp Yba.prog (dropSeq 16 (Yba.f3.body.getD .skip)) (bodyPost Yba.prog Yba.f3 fun e w' => e = .returned (.bool true) ∧ Below w.heap.size w w') ⟨#[u0, u1, .int .u64 n, .slice a3 L c3, .bool a4, .bool a5, u6, .slice a7 ns c7, u8, u9, u10, u11, u12, u13, pt fa, u15, u16, .int .i64 bs, pt dsb, .slice ad L cd, .slice sa ns cs, .iface 60 (pt sb), pt fb, pt lvb, .func (.func 6) #[] #[pt lvb, pt dsb], pt logb, pt cb, .func (.func 8) #[] #[pt cb, pt logb, pt fa, pt fb], pt pb, u29, u30, u31, u32, u33, u34, u35, u36, u37, u38, u39, u40, u41, u42, u43, u44, u45, u46, u47, u48, u49, u50, u51, u52, u53, u54, u55, u56, u57, u58, u59, u60, u61, u62, u63, u64, u65, u66, u67, u68, u69, u70, u71, u72, u73, u74, u75, u76, u77, u78, u79, u80, u81, u82, u83, u84, u85, u86, u87, u88, u89, u90, u91, u92, u93, u94, u95, u96, u97, u98, u99, u100, u101, u102, u103, u104, u105, u106, u107, u108, u109, u110, u111, u112, u113, u114, u115, u116, u117, u118, u119, u120, u121, u122, u123, u124, u125, u126, u127, u128, u129, u130, u131, u132, u133, u134, u135, u136, u137, u138, u139, u140, u141, u142, u143, u144, u145, u146, u147, u148, u149, u150, u151, u152, u153, u154, u155, u156, u157, u158, u159, u160, u161, u162, u163, u164, u165, u166, u167, u168, u169, u170, u171, u172, u173, u174, u175, u176, u177, u178, u179, u180, u181, u182, u183, u184, u185, u186, u187, u188, u189, u190, u191, u192, u193, u194, u195, u196, u197, u198, u199, u200, u201, u202, u203, u204, u205, u206, u207, u208, u209, u210, u211, u212, u213, u214, u215, u216, u217, u218, u219, u220, u221, u222, u223, u224, u225, u226, u227, u228, u229, u230, u231, u232, u233, u234, u235, u236, u237, u238, u239, u240, u241, u242, u243, u244, u245, u246, u247, u248, u249, u250, u251, u252, u253, u254, u255, u256, u257, u258, u259, u260, u261, u262, u263, u264, u265, u266, u267, u268, u269, u270, u271, u272, u273, u274, u275, u276, u277, u278, u279, u280, u281, u282], []⟩ W := by
  have hd9 := m.d.cell (i := 0) (by omega)
  have HM := hid_mk m
  have HX := hid_mk (And.intro hn (And.intro hF (And.intro hds (And.intro hbs (And.intro hL (And.intro hns (And.intro hc3 (And.intro hD (And.intro i3 i7)))))))))
  clear m hn hF hds hbs hL hns hc3 hD i3 i7
  conv => arg 2; whnf
  dsimp only
  go_upto_region 19 with fail
  go_cut [29] (fun s29 wx => ∃ bb, s29 = pt bb ∧ Pre bs ds lvb dsb bb cb logb fa fb pb eb sb L cd ns cs n F sa ad a7 a4 a5 D D2 w wx)
  case first => as_aux_lemma =>
    refine wp_region_lit ?_
    refine wpList_plain rfl (fun K hK => ?_)
    go_simp
    refine hK _ _ ?_
    clear hK K
    refine wpList_plain rfl (fun K hK => ?_)
    go_simp
    refine hK _ _ ?_
    clear hK K
    refine wpList_plain rfl (fun K hK => ?_)
    go_simp
    refine hK _ _ ?_
    clear hK K
    refine wpList_plain rfl (fun K hK => ?_)
    go_simp
    refine hK _ _ ?_
    clear hK K
    refine wpList_plain rfl (fun K hK => ?_)
    go_simp
    refine hK _ _ ?_
    clear hK K
    refine wpList_plain rfl (fun K hK => ?_)
    go_simp
    refine hK _ _ ?_
    clear hK K
    refine wpList_plain rfl (fun K hK => ?_)
    go_simp
    refine hK _ _ ?_
    clear hK K
    refine wpList_built ?ha 55 #[(0, .tmp 81), (1, .tmp 82), (2, .tmp 83), (3, .tmp 84), (4, .tmp 85), (5, .tmp 86), (6, .tmp 87)] ?hb #[.int .i64 bs, .int .i64 ds, .func (.func 6) #[] #[pt lvb, pt dsb], .func (.func 8) #[] #[pt cb, pt logb, pt fa, pt fb], pt pb, .int .u64 n, .slice sa ns cs] ?hc ?hd
    case ha => rfl
    case hb => rfl
    case hc =>
      simp only [List.map_toArray, List.map_cons, List.map_nil]
      simp [Act.eval]
      exact built55b _ _ _ _ _ _ _ _ _ _ _
    go_wp2_with fail
    go_meet
    case rel =>
      refine ⟨W.heap.size, rfl, HM.out.pre #[.int .i64 bs, .int .i64 ds, .func (.func 6) #[] #[pt lvb, pt dsb], .func (.func 8) #[] #[pt cb, pt logb, pt fa, pt fb], pt pb, .int .u64 n, .slice sa ns cs] rfl ?_⟩
      intro t ht
      match t, ht with
      | 0, _ | 1, _ | 2, _ | 3, _ | 4, _ | 5, _ | 6, _ => rfl
      | k + 7, h => omega
  case rest => as_aux_lemma =>
    obtain ⟨bb, rfl, hpre⟩ := hcut
    obtain ⟨hn, hF, hds, hbs, hL, hns, hc3, hD, i3, i7⟩ := HX.out
    apply_assumption
    exact segF _ _ _ _ _ _ _ _ _ _ _ _ _ _ _ _ _ _ _ _ _ _ _ _ _ _ _ _ _ _ _ _ _ _ _ _ _ _ _ _ _ _ _ _ _ _ _ _ _ _ _ _ _ _ _ _ _ _ _ _ _ _ _ _ _ _ _ _ _ _ _ _ _ _ _ _ _ _ _ _ _ _ _ _ _ _ _ _ _ _ _ _ _ _ _ _ _ _ _ _ _ _ _ _ _ _ _ _ _ _ _ _ _ _ _ _ _ _ _ _ _ _ _ _ _ _ _ _ _ _ _ _ _ _ _ _ _ _ _ _ _ _ _ _ _ _ _ _ _ _ _ _ _ _ _ _ _ _ _ _ _ _ _ _ _ _ _ _ _ _ _ _ _ _ _ _ _ _ _ _ _ _ _ _ _ _ _ _ _ _ _ _ _ _ _ _ _ _ _ _ _ _ _ _ _ _ _ _ _ _ _ _ _ _ _ _ _ _ _ _ _ _ _ _ _ _ _ _ _ _ _ _ _ _ _ _ _ _ _ _ _ _ _ _ _ _ _ _ _ _ _ _ _ _ _ _ _ _ _ _ _ _ _ _ _ _ _ _ a4 a5 n F fa dsb fb lvb logb cb bb pb eb sb ds bs L c3 cd ns cs c7 a3 a7 sa ad D D2 w wc hn hF hds hbs hL hns hc3 hD i3 i7 hpre
end Go.Proofs.Ybulkdkwu.lawS5597AWhole

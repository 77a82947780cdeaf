import Derived.Test.YbulkdkxiSegC
namespace Go.Proofs.Ybulkdkxi.lawS5598AWhole
open Go.RowKit Go.Deep
open Go.Sort (swp size_swp)
set_option linter.unusedVariables false
set_option linter.unusedSimpArgs false

theorem run_equal_ptr_same' (a : Addr) (w : World) (i : TypeInfo) (hi : Yba.prog.info? 23 = some i) : (Op.equal 38 (.pointer (some a)) (.pointer (some a))).run Yba.prog w = .ok true w := by
  have h : ∀ d : Nat, (Op.equalIn (d + 1) 38 (.pointer (some a)) (.pointer (some a))).run Yba.prog w = .ok true w := fun d => by
    simp [Op.equalIn, run_underlying Yba.underlying38, sizeOf, typeInfo, hi, run_sameAddr_same]
  exact h 9999

theorem neq_same (a : Addr) (w : World) : (binOp .neq 38 (.pointer (some a)) (.pointer (some a))).run Yba.prog w = .ok (.bool false) w := by
  obtain ⟨i, hi, _⟩ := Option.map_eq_some_iff.1 info23
  have h := run_equal_ptr_same' a w i hi
  simp only [binOp]
  simp [h]

set_option maxRecDepth 100000 in
set_option maxHeartbeats 8000000 in
theorem segB (u2 u3 u4 u5 u8 u10 u11 u12 u16 u17 u18 u19 u20 u21 u22 u23 u24 u25 u26 u27 u28 u29 u30 u31 u32 u33 u34 u35 u36 u37 u38 u39 u40 u41 u42 u43 u44 u45 u46 u47 u48 u49 u50 u51 u52 u53 u54 u55 u56 u57 u58 u59 u60 u61 u62 u63 u64 u65 u66 u67 u68 u69 u70 u71 u72 u73 u74 u75 u76 u77 u78 u79 u80 u81 u82 u83 u84 u85 u86 u87 u88 u89 u90 u91 u92 u93 u94 u95 u96 u97 u98 u99 u100 u101 u102 u103 u104 u105 u106 u107 u108 u109 u110 u111 u112 u113 u114 u115 u116 u117 u118 u119 u120 u121 u122 u123 u124 u125 u126 u127 u128 u129 u130 u131 u132 u133 u134 u135 u136 u137 u138 u139 u140 u141 u142 u143 u144 u145 u146 u147 u148 u149 u150 u151 u152 u153 u154 u155 u156 u157 u158 u159 u160 u161 u162 u163 u164 u165 u166 u167 u168 u169 u170 u171 u172 u173 u174 u175 u176 u177 u178 u179 u180 u181 u182 u183 u184 u185 u186 u187 u188 u189 u190 u191 u192 u193 u194 u195 u196 u197 u198 u199 u200 u201 u202 u203 : Value) (K : Ks) (w0 W : World) (a0 aw : Option Addr) (n c0 : Nat) (d0 dw : Array Int) (oo : Bool) (rb wb sb b : Nat) (f : Nat → Value) (hn : n ≤ 4096) (hPl : K.Pl = fun x => ∃ i, i < n ∧ d0[i]! = x)
    (hin : Inc w0 a0 n c0 d0) (h : TC K w0 W n (.slice aw n n) d0 dw oo rb wb 2000000000000) (hno : oo = false → St K 0 W)
    (hs : W.rowIs sb 34 6 f) (hf0 : f 0 = .slice aw n n) (hf5 : f 5 = .bool oo) (hnil : aw.isNone = a0.isNone) (haw : n = 0 ∨ (aw = some ⟨b, 0, none⟩ ∧ RowA b n n dw W)) :
    Code.wp Yba.prog (dropSeq 12 (Yba.f3.body.getD .skip)) (bodyPost Yba.prog Yba.f3 fun e w' => e = .returned (.bool true) ∧ Below w0.heap.size w0 w') ⟨#[.slice a0 n c0, .bool oo, u2, u3, u4, u5, pt K.bm, pt K.bn, u8, pt K.bc, u10, u11, u12, pt sb, pt rb, .slice (some ⟨wb, 0, none⟩) n n, u16, u17, u18, u19, u20, u21, u22, u23, u24, u25, u26, u27, u28, u29, u30, u31, u32, u33, u34, u35, u36, u37, u38, u39, u40, u41, u42, u43, u44, u45, u46, u47, u48, u49, u50, u51, u52, u53, u54, u55, u56, u57, u58, u59, u60, u61, u62, u63, u64, u65, u66, u67, u68, u69, u70, u71, u72, u73, u74, u75, u76, u77, u78, u79, u80, u81, u82, u83, u84, u85, u86, u87, u88, u89, u90, u91, u92, u93, u94, u95, u96, u97, u98, u99, u100, u101, u102, u103, u104, u105, u106, u107, u108, u109, u110, u111, u112, u113, u114, u115, u116, u117, u118, u119, u120, u121, u122, u123, u124, u125, u126, u127, u128, u129, u130, u131, u132, u133, u134, u135, u136, u137, u138, u139, u140, u141, u142, u143, u144, u145, u146, u147, u148, u149, u150, u151, u152, u153, u154, u155, u156, u157, u158, u159, u160, u161, u162, u163, u164, u165, u166, u167, u168, u169, u170, u171, u172, u173, u174, u175, u176, u177, u178, u179, u180, u181, u182, u183, u184, u185, u186, u187, u188, u189, u190, u191, u192, u193, u194, u195, u196, u197, u198, u199, u200, u201, u202, u203], []⟩ W := by
  have mixed := mixedY
  have HT := hid_mk h
  have HIN := hid_mk hin
  have HNO := hid_mk hno
  have HPL := hid_mk hPl
  have hnl := fun (w : World) (a : Option Addr) (n c : Nat) => Lib.run_eql_slice_nil (P := Yba.prog) w 22 23 a n c 0 0 Yba.underlying22
  have cs0 := hs.cell (i := 0) (by omega)
  have cs5 := hs.cell (i := 5) (by omega)
  have cr0 : W.cell? ⟨rb, 0, none⟩ = some (.slice aw n n) := h.res.cell (i := 0) (by omega)
  rw [hf0] at cs0
  rw [hf5] at cs5
  have HAW := hid_mk haw
  clear h hin hno hPl hs hf0 hf5 haw
  conv => arg 2; whnf
  dsimp only
  go_upto_region 30 with fail
  go_cut [142] (fun s wx => s = .bool false ∧ Hid (Chg [] W wx))
  case first => as_aux_lemma =>
    rcases HAW.out with rfl | ⟨rfl, hr⟩
    · go_quiet (fail)
      go_wp2_with fail
      go_meet
      case rel => exact ⟨by simp, (Chg.refl [] W).drewN _⟩
    · by_cases h0 : n = 0
      · subst h0
        go_quiet (fail)
        go_wp2_with fail
        go_meet
        case rel => exact ⟨by simp, (Chg.refl [] W).drewN _⟩
      · have hz : decide ((n : Int) > 0) = true := decide_eq_true (by omega)
        have hz2 : (0 : Int) < (n : Int) := by omega
        have hz3 : 0 < n := by omega
        have hsame := neq_same ⟨b, 0, none⟩
        go_quiet (fail)
        go_wp2_with fail
        go_meet
        case rel => exact ⟨by simp, (Chg.refl [] W).drewN _⟩
  case rest => as_aux_lemma =>
  obtain ⟨rfl, hch⟩ := hcut
  clear cs0 cs5
  go_upto_block 4 with fail
  go_cut [145] (fun s wx => Hid (Chg [] W wx))
  case first => as_aux_lemma =>
    go_wp2_with fail
    go_loopg [145] n (fun gk s wr => ∃ k : Nat, s = .int .i64 k ∧ k ≤ n ∧ n - k ≤ gk ∧ Hid (Chg [] W wr))
    case atStart => exact ⟨0, rfl, Nat.zero_le _, by omega, hch⟩
    case round =>
      clear hch
      obtain ⟨k, rfl, hk, hgk, hch⟩ := hrel
      by_cases hlt : k < n
      · have hkz : (k : Int) < (n : Int) := by omega
        rcases HAW.out with h0 | ⟨rfl, hr⟩
        · omega
        have c1 := hch.out.cell cr0 (by simp)
        have c2 := (hr.chg hch.out (by simp)).cell k hlt
        have c3 := (HT.out.want.chg hch.out (by simp)).cell k hlt
        generalize dw[k]! = x at c2 c3
        clear hr
        go_upto_region 35 with fail
        go_quiet (fail)
        have hch2 : Hid (Chg [] W (wr.drewN nq)) := hch.out.drewN nq
        go_wp2_with fail
        go_roundg (n - (k + 1))
        case measure => omega
        case rel => exact ⟨k + 1, by go_num, by omega, Nat.le_refl _, hch2⟩
      · have hkz : ¬ (k : Int) < (n : Int) := by omega
        go_wp2_with fail
        go_meet
        case rel => exact hch
  case rest => as_aux_lemma =>
  apply_assumption
  exact segC _ _ _ _ _ _ _ _ _ _ _ _ _ _ _ _ _ _ _ _ _ _ _ _ _ _ _ _ _ _ _ _ _ _ _ _ _ _ _ _ _ _ _ _ _ _ _ _ _ _ _ _ _ _ _ _ _ _ _ _ _ _ _ _ _ _ _ _ _ _ _ _ _ _ _ _ _ _ _ _ _ _ _ _ _ _ _ _ _ _ _ _ _ _ _ _ _ _ _ _ _ _ _ _ _ _ _ _ _ _ _ _ _ _ _ _ _ _ _ _ _ _ _ _ _ _ _ _ _ _ _ _ _ _ _ _ _ _ _ _ _ _ _ _ _ _ _ _ _ _ _ _ _ _ _ _ _ _ _ _ _ _ _ _ _ _ _ _ _ _ _ _ _ _ _ _ _ _ _ _ _ _ _ _ _ _ _ _ _ _ _ _ _ _ _ _ _ K w0 _ a0 n c0 _ d0 dw oo rb wb hn HPL.out HIN.out (HT.out.chg hcut.out) (fun ho => st_of_chg (HNO.out ho) HT.out.hK hcut.out)

end Go.Proofs.Ybulkdkxi.lawS5598AWhole

import Derived.Test.YbulkdkxiSegB
import Derived.Test.YbulkdkxiUniq
namespace Go.Proofs.Ybulkdkxi.lawS5598AWhole
open Go.RowKit Go.Deep
open Go.Sort (swp size_swp insOuter insInner)
set_option linter.unusedVariables false
set_option linter.unusedSimpArgs false

/-- The worlds of the law's own insertion sort: the row wb holds d. -/
structure Own (K : Ks) (W : World) (wb n : Nat) (d : Array Int) (w : World) : Prop where
  chg : Chg [wb] W w
  row : RowA wb n n d w
  u : ∀ i, i < n → U d[i]!

theorem Own.swap {K : Ks} {W w : World} {wb n : Nat} {d : Array Int} (h : Own K W wb n d w) (i j : Nat) (hi : i < n) (hj : j < n) : Own K W wb n (swp d i j) ((w.setCell ⟨wb, i, none⟩ (uV d[j]!)).setCell ⟨wb, j, none⟩ (uV d[i]!)) := by
  refine ⟨(h.chg.setCell _ _ (fun _ => by simp)).setCell _ _ (fun _ => by simp), h.row.swap i j hi hj, fun p hp => ?_⟩
  have hs := h.row.1
  by_cases e : p = j
  · subst e; rw [Sort.swp_right _ _ _ (by omega)]; exact h.u i hi
  · by_cases e2 : p = i
    · subst e2; rw [Sort.swp_left _ _ _ (by omega) (by omega)]; exact h.u j hj
    · rw [Sort.swp_other _ _ _ _ e2 e]; exact h.u p hp

set_option maxRecDepth 100000 in
set_option maxHeartbeats 8000000 in
theorem segA (u2 u3 u4 u5 u8 u10 u11 u12 u15 u16 u17 u18 u19 u20 u21 u22 u23 u24 u25 u26 u27 u28 u29 u30 u31 u32 u33 u34 u35 u36 u37 u38 u39 u40 u41 u42 u43 u44 u45 u46 u47 u48 u49 u50 u51 u52 u53 u54 u55 u56 u57 u58 u59 u60 u61 u62 u63 u64 u65 u66 u67 u68 u69 u70 u71 u72 u73 u74 u75 u76 u77 u78 u79 u80 u81 u82 u83 u84 u85 u86 u87 u88 u89 u90 u91 u92 u93 u94 u95 u96 u97 u98 u99 u100 u101 u102 u103 u104 u105 u106 u107 u108 u109 u110 u111 u112 u113 u114 u115 u116 u117 u118 u119 u120 u121 u122 u123 u124 u125 u126 u127 u128 u129 u130 u131 u132 u133 u134 u135 u136 u137 u138 u139 u140 u141 u142 u143 u144 u145 u146 u147 u148 u149 u150 u151 u152 u153 u154 u155 u156 u157 u158 u159 u160 u161 u162 u163 u164 u165 u166 u167 u168 u169 u170 u171 u172 u173 u174 u175 u176 u177 u178 u179 u180 u181 u182 u183 u184 u185 u186 u187 u188 u189 u190 u191 u192 u193 u194 u195 u196 u197 u198 u199 u200 u201 u202 u203 : Value) (K : Ks) (w0 W : World) (a0 aw : Option Addr) (n c0 : Nat) (d0 d' : Array Int) (oo : Bool) (rb sb b : Nat) (f : Nat → Value) (hn : n ≤ 4096) (hPl : K.Pl = fun x => ∃ i, i < n ∧ d0[i]! = x)
    (hin : Inc w0 a0 n c0 d0) (hK : K.Ok) (lowK : w0.heap.size ≤ K.bm) (st : St K 2000000000000 W) (bel : Below w0.heap.size w0 W) (res : W.rowIs rb 36 2 (fun i => if i = 0 then .slice aw n n else K.lastV)) (resO : ¬ OwnL K.L K.bc W rb)
    (hno : oo = false → St K 0 W) (hs : W.rowIs sb 34 6 f) (hf0 : f 0 = .slice aw n n) (hf5 : f 5 = .bool oo) (hnil : aw.isNone = a0.isNone) (haw : n = 0 ∨ (aw = some ⟨b, 0, none⟩ ∧ RowA b n n d' W))
    (pm : Sort.PermIn 0 n d0 d') (so : oo = true → Sort.SortedIn (ltc K.cf) 0 n d') (no : oo = false → d' = d0) :
    Code.wp Yba.prog (dropSeq 9 (Yba.f3.body.getD .skip)) (bodyPost Yba.prog Yba.f3 fun e w' => e = .returned (.bool true) ∧ Below w0.heap.size w0 w') ⟨#[.slice a0 n c0, .bool oo, u2, u3, u4, u5, pt K.bm, pt K.bn, u8, pt K.bc, u10, u11, u12, pt sb, pt rb, u15, u16, u17, u18, u19, u20, u21, u22, u23, u24, u25, u26, u27, u28, u29, u30, u31, u32, u33, u34, u35, u36, u37, u38, u39, u40, u41, u42, u43, u44, u45, u46, u47, u48, u49, u50, u51, u52, u53, u54, u55, u56, u57, u58, u59, u60, u61, u62, u63, u64, u65, u66, u67, u68, u69, u70, u71, u72, u73, u74, u75, u76, u77, u78, u79, u80, u81, u82, u83, u84, u85, u86, u87, u88, u89, u90, u91, u92, u93, u94, u95, u96, u97, u98, u99, u100, u101, u102, u103, u104, u105, u106, u107, u108, u109, u110, u111, u112, u113, u114, u115, u116, u117, u118, u119, u120, u121, u122, u123, u124, u125, u126, u127, u128, u129, u130, u131, u132, u133, u134, u135, u136, u137, u138, u139, u140, u141, u142, u143, u144, u145, u146, u147, u148, u149, u150, u151, u152, u153, u154, u155, u156, u157, u158, u159, u160, u161, u162, u163, u164, u165, u166, u167, u168, u169, u170, u171, u172, u173, u174, u175, u176, u177, u178, u179, u180, u181, u182, u183, u184, u185, u186, u187, u188, u189, u190, u191, u192, u193, u194, u195, u196, u197, u198, u199, u200, u201, u202, u203], []⟩ W := by
  have mixed := mixedY
  have hd0 := hin.1
  have hUs : ∀ i, i < n → U d0[i]! := fun i hi => hK.up _ (by rw [hPl]; exact ⟨i, hi, rfl⟩)
  have hPs : ∀ i, i < n → K.Pl d0[i]! := fun i hi => by rw [hPl]; exact ⟨i, hi, rfl⟩
  have hinW := hin.below bel
  -- what is there stays there while only new blocks change
  have HALL : Hid (∀ (wb : Nat) (dw : Array Int) (wx : World), W.heap.size ≤ wb → Chg [] W wx → RowA wb n n dw wx → dw = d' → TC K w0 wx n (.slice aw n n) d0 dw oo rb wb 2000000000000 ∧ (oo = false → St K 0 wx) ∧ wx.rowIs sb 34 6 f ∧ (n = 0 ∨ (aw = some ⟨b, 0, none⟩ ∧ RowA b n n dw wx))) := by
    intro wb dw wx hwb hc hr he
    subst he
    have hm := moved_of_chg st hK hc
    have hst := st_of_chg st hK hc
    refine ⟨⟨hK, lowK, hst, hc.below bel bel.size (by simp), hc.row res (by simp), (hm.keep rb res.lt resO).2, hr, fun ho => ?_, fun i hi => ?_⟩, fun ho => st_of_chg (hno ho) hK hc, hc.row hs (by simp), haw.imp id fun ⟨h1, h2⟩ => ⟨h1, h2.chg hc (by simp)⟩⟩
    · have hlw := st.st.low
      rcases ho with ho | ⟨ad, n', k', h1, h2⟩
      · have k1 := hK.h1; have k2 := hK.h2; have k3 := hK.h3; have k4 := hK.h4; have k5 := hK.h5; have k6 := hK.h6; have k7 := hK.h7; have k8 := hK.h8; have k9 := hK.h9; have k10 := hK.h10
        simp only [Ks.L, List.mem_cons, List.not_mem_nil, or_false] at ho
        omega
      · rw [World.cell?_of_block (w := W) (hc.block K.bc (Nat.lt_of_lt_of_le hK.bcN st.st.low) (by simp))] at h1
        have := (st.st.calls.back ⟨ad, n', k', h1, h2⟩).2
        omega
    · exact Sort.permIn_all d0 dw 0 n K.Pl (by omega) pm (fun i _ hi => hPs i hi) i (Nat.zero_le _) hi
  obtain ⟨dw, hdw⟩ : ∃ dw, dw = (if oo = true then Sort.insertionSort (ltc K.cf) d0 0 n else d0) := ⟨_, rfl⟩
  have hdd : Hid (dw = d') := by
    show dw = d'
    cases oo with
    | true =>
      have hi := Sort.insertionSort_holds K.swo d0 0 n (Nat.zero_le _) (by omega)
      rw [hdw, if_pos rfl]
      exact uniq K hK n d0 _ _ hd0 hPs hi.1 pm hi.2 (so rfl)
    | false =>
      rw [hdw, if_neg (by simp), no rfl]
  have HDW := hid_mk hdw
  have rm := hid_mk st.st.mask
  have rn := hid_mk st.st.neg
  have kb1 : K.bm < W.heap.size := st.st.mask.lt
  have kb2 : K.bn < W.heap.size := st.st.neg.lt
  have HK := hid_mk hK
  have HPL := hid_mk hPl
  have HU := hid_mk hUs
  have HIN := hid_mk hin
  have HIW := hid_mk hinW
  have HNL := hid_mk hnil
  have HF := hid_mk (And.intro hf0 hf5)
  clear hdw hin hK lowK st bel res resO hno hs hf0 hf5 hnil haw pm so no hUs hPs hPl hinW
  have hmk := fun W => run_make_row' (P := Yba.prog) 22 23 (.int .u32 0) 4 Yba.underlying22 info23 rfl .i64 .i64 n (by omega) (by omega) W
  conv => arg 2; whnf
  dsimp only
  go_upto_region 13 with fail
  obtain ⟨wb, hwb⟩ : ∃ wb, wb = W.heap.size := ⟨_, rfl⟩
  rw [← hwb]
  have HWB := hid_mk hwb
  clear hmk hwb
  go_cut [53] (fun s wx => Hid (Chg [] W wx ∧ RowA wb n n d0 wx))
  case first => as_aux_lemma =>
    obtain ⟨hd, ⟨rfl, rfl, rfl⟩ | ⟨x, rfl, hx2⟩⟩ := HIW.out
    · go_wp2_with (first | (refine wpList_copy_nothing rfl (.tmp 51) (.tmp 52) 22 22 rfl 23 Yba.underlying22 (by kernel_rfl) _ _ _ _ _ _ rfl rfl rfl ?_))
      go_meet
      case rel =>
        refine ⟨(Chg.refl [] W).alloc _, hd, Nat.le_refl _, fun _ => .int .u32 0, ?_, fun i hi => by omega⟩
        rw [HWB.out]
        exact World.rowIs_made W (.int .u32 0) 0 23
    · have hfl := filled W n d0 hd
      have hsrc : Hid (∀ j v, (bl (fun i => d0[i]!) n)[j]? = some v → (W.alloc (.cells (madeCells #[.int .u32 0] n) 23)).cell? (x.add j) = some v) := bl_cell fun i hi => ((Chg.refl [] W).alloc _).cell (hx2 i hi) (by simp)
      have HFL := hid_mk hfl
      have hg : Hid ((W.alloc (.cells (madeCells #[.int .u32 0] n) 23)).heap[wb]? = some (.cells (madeCells #[.int .u32 0] n) 23 (0, 0))) := by show _ = _; rw [HWB.out]; exact heap_alloc_new W _
      rw [← HWB.out] at HFL
      clear hfl
      go_wp2_with (first | (refine wpList_copy_own rfl (.tmp 51) (.tmp 52) 22 22 rfl 23 Yba.underlying22 (by kernel_rfl) wb 0 n n x n c0 rfl rfl (madeCells #[.int .u32 0] n) 23 hg.out (bl (fun i => d0[i]!) n) (by rw [bl_len]; simp) hsrc.out (by rw [bl_len, size_madeCells]; omega) (bl_one _ n) ?_))
      go_meet
      case rel => exact ⟨HFL.out.2, HFL.out.1⟩
  case rest => as_aux_lemma =>
  obtain ⟨chw, hrw⟩ := hcut
  have CHW := hid_mk chw
  have OW0 : Hid (Own K wc wb n d0 wc) := ⟨Chg.refl _ _, hrw, HU.out⟩
  have rm2 := hid_mk (chw.row rm.out (by simp))
  have rn2 := hid_mk (chw.row rn.out (by simp))
  have hne1 : K.bm ≠ wb := by have := HWB.out; omega
  have hne2 : K.bn ≠ wb := by have := HWB.out; omega
  have hdec := hid_mk (fun (z : Int) (w : World) (hz : U z) => dec_y z K.mask K.neg w hz HK.out.um)
  have hwn : (.int .u32 K.mask : Value) = uV K.mask := rfl
  clear chw hrw rm rn hwn
  go_upto_if 54 with fail
  go_cut [16] (fun s wx => Hid (Own K wc wb n dw wx))
  case first => as_aux_lemma =>
    cases oo with
    | false =>
      have e : dw = d0 := by rw [HDW.out, if_neg (by simp)]
      have HEE := hid_mk e
      clear e
      go_wp2_with fail
      go_meet
      case rel => rw [HEE.out]; exact OW0
    | true =>
      have e : Hid (insOuter (ltc K.cf) 0 n 1 d0 = dw) := by show _ = _; rw [HDW.out, if_pos rfl]; rfl
      go_wp2_with fail
      go_loopg [16] n (fun g1 vi wr => ∃ (i : Nat) (dk : Array Int), vi = .int .i64 i ∧ 0 < i ∧ i ≤ n + 1 ∧ n + 1 - i ≤ g1 + 1 ∧ Hid (Own K wc wb n dk wr) ∧ Hid (insOuter (ltc K.cf) 0 n i dk = dw))
      case atStart => exact ⟨1, d0, rfl, by omega, by omega, by omega, OW0, e⟩
      case round =>
        clear OW0 e
        obtain ⟨i, dk, rfl, hai, hib, hg1, O1, HO⟩ := hrel
        by_cases hlt : i < n
        · have hltz : (i : Int) < (n : Int) := by omega
          go_wp2_with fail
          go_loopg [17] i (fun g2 vj wr2 => ∃ (j : Nat) (dj : Array Int), vj = .int .i64 j ∧ j ≤ i ∧ j ≤ g2 ∧ Hid (Own K wc wb n dj wr2) ∧ Hid (insInner (ltc K.cf) 0 j dj = insInner (ltc K.cf) 0 i dk))
          case atStart => exact ⟨i, dk, rfl, Nat.le_refl _, Nat.le_refl _, O1, rfl⟩
          case round =>
            clear O1
            obtain ⟨j, dj, rfl, hji, hg2, OJ, HI⟩ := hrel
            have OUT : Hid ((j ≤ 0 ∨ (ltc K.cf) dj[j]! dj[j - 1]! = false) → insOuter (ltc K.cf) 0 n (i + 1) dj = dw) := fun hs => by
              rw [← HO.out, insOuter_go _ _ _ _ _ hlt, ← HI.out, insInner_stop _ _ _ _ hs]
            by_cases hja : 0 < j
            · obtain ⟨q, rfl⟩ : ∃ q, j = q + 1 := ⟨j - 1, by omega⟩
              have hga : decide ((q : Int) + 1 > 0) = true := decide_eq_true (by omega)
              have hga2 : (0 : Int) < (q : Int) + 1 := by omega
              have hq0 : ((q : Int) + 1).toNat = q + 1 := by omega
              have hq1 : (0 : Int) ≤ (q : Int) + 1 := by omega
              have hq2 : (q : Int) + 1 < (n : Int) := by omega
              have hq3 : (q : Int) < (n : Int) := by omega
              have hq4 : IntKind.i64.wrap ((q : Int) + 1) = (q : Int) + 1 := by rw [IntKind.wrap_i64]; omega
              have hq5 : IntKind.i64.wrap (q : Int) = (q : Int) := by rw [IntKind.wrap_i64]; omega
              obtain ⟨x, hx⟩ : ∃ x, x = dj[q + 1]! := ⟨_, rfl⟩
              obtain ⟨y, hy⟩ : ∃ y, y = dj[q]! := ⟨_, rfl⟩
              have ux := OJ.out.u (q + 1) (by omega)
              have uy := OJ.out.u q (by omega)
              have cx := OJ.out.row.cell (q + 1) (by omega)
              have cy := OJ.out.row.cell q (by omega)
              have cm : wr.cell? ⟨K.bm, 0, none⟩ = some (uV K.mask) := (OJ.out.chg.row rm2.out (by simpa using hne1)).cell (i := 0) (by omega)
              have cn : wr.cell? ⟨K.bn, 0, none⟩ = some (.bool K.neg) := (OJ.out.chg.row rn2.out (by simpa using hne2)).cell (i := 0) (by omega)
              rw [← hx] at cx ux
              rw [← hy] at cy uy
              have HX := hid_mk hx
              have HY := hid_mk hy
              clear hx hy
              have hiff := K.lt_iff x y
              cases hlv : (ltc K.cf) x y with
              | true =>
                rw [hlv] at hiff
                have hd : decide (K.dec y > K.dec x) = true := hiff.symm
                have hd2 : K.dec x < K.dec y := of_decide_eq_true hiff.symm
                clear hiff
                go_upto_region 19 with fail
                go_quiet ((go_at_call 5; go_must (exact Calls.quiet_of_same (hdec.out _ _ (by assumption)))))
                have O2 : Hid (Own K wc wb n dj (wr.drewN nq)) := ⟨OJ.out.chg.drewN nq, OJ.out.row.drewN nq, OJ.out.u⟩
                clear OJ cx cy cm cn
                generalize wr.drewN nq = w2 at O2 ⊢
                have O3 := O2.out.swap (q + 1) q (by omega) (by omega)
                have cx := O2.out.row.cell (q + 1) (by omega)
                have cy := O2.out.row.cell q (by omega)
                have fx := O2.out.row.frz (q + 1)
                have fy := O2.out.row.frz q
                rw [← HX.out] at cx O3
                rw [← HY.out] at cy O3
                have cz : (w2.setCell ⟨wb, q + 1, none⟩ (uV y)).cell? ⟨wb, q, none⟩ = some (uV y) := (World.cell?_setCell_other _ _ _ _ (by intro e'; simp only [Addr.mk.injEq] at e'; omega)).trans cy
                have H3 := hid_mk O3
                clear O2 O3
                go_wp2_with fail
                go_roundg q
                case measure => omega
                case rel => exact ⟨q, swp dj (q + 1) q, by go_num, by omega, Nat.le_refl _, H3, (show Hid _ from by rw [← HI.out, insInner_go (ltc K.cf) 0 (q + 1) dj hja (by rw [Nat.add_sub_cancel, ← HX.out, ← HY.out]; exact hlv)]; exact rfl)⟩
              | false =>
                rw [hlv] at hiff
                have hd : decide (K.dec y > K.dec x) = false := hiff.symm
                have hd2 : ¬ K.dec x < K.dec y := of_decide_eq_false hiff.symm
                clear hiff
                go_upto_region 19 with fail
                go_quiet ((go_at_call 5; go_must (exact Calls.quiet_of_same (hdec.out _ _ (by assumption)))))
                have O2 : Hid (Own K wc wb n dj (wr.drewN nq)) := ⟨OJ.out.chg.drewN nq, OJ.out.row.drewN nq, OJ.out.u⟩
                go_wp2_with fail
                go_roundg (n - (i + 1))
                case measure => omega
                case rel => exact ⟨i + 1, dj, by go_num, by omega, by omega, by omega, O2, OUT.out (Or.inr (by rw [Nat.add_sub_cancel, ← HX.out, ← HY.out]; exact hlv))⟩
            · have hga : decide ((j : Int) > 0) = false := decide_eq_false (by omega)
              obtain rfl : j = 0 := by omega
              go_upto_region 19 with fail
              go_quiet (fail)
              have O2 : Hid (Own K wc wb n dj (wr.drewN nq)) := ⟨OJ.out.chg.drewN nq, OJ.out.row.drewN nq, OJ.out.u⟩
              go_wp2_with fail
              go_roundg (n - (i + 1))
              case measure => omega
              case rel => exact ⟨i + 1, dj, by go_num, by omega, by omega, by omega, O2, OUT.out (Or.inl (by omega))⟩
        · have hltz : ¬ (i : Int) < (n : Int) := by omega
          have e : dk = dw := by rw [← HO.out, insOuter_stop _ _ _ _ _ hlt]
          have HEE := hid_mk e
          clear e
          go_wp2_with fail
          go_meet
          case rel => rw [← HEE.out]; exact O1
  case rest => as_aux_lemma =>
  have hch : Hid (Chg [] W wc) := CHW.out.step hcut.out.chg (by intro x hx hlt; simp at hx; have := HWB.out; omega)
  obtain ⟨t1, t2, t3, t4⟩ := HALL.out wb dw wc (by have := HWB.out; omega) hch.out hcut.out.row hdd.out
  apply_assumption
  exact segB _ _ _ _ _ _ _ _ _ _ _ _ _ _ _ _ _ _ _ _ _ _ _ _ _ _ _ _ _ _ _ _ _ _ _ _ _ _ _ _ _ _ _ _ _ _ _ _ _ _ _ _ _ _ _ _ _ _ _ _ _ _ _ _ _ _ _ _ _ _ _ _ _ _ _ _ _ _ _ _ _ _ _ _ _ _ _ _ _ _ _ _ _ _ _ _ _ _ _ _ _ _ _ _ _ _ _ _ _ _ _ _ _ _ _ _ _ _ _ _ _ _ _ _ _ _ _ _ _ _ _ _ _ _ _ _ _ _ _ _ _ _ _ _ _ _ _ _ _ _ _ _ _ _ _ _ _ _ _ _ _ _ _ _ _ _ _ _ _ _ _ _ _ _ _ _ _ _ _ _ _ _ _ _ _ _ _ _ _ _ _ _ _ _ _ _ K w0 _ a0 aw n c0 d0 dw oo rb wb sb b f hn HPL.out HIN.out t1 t2 t3 HF.out.1 HF.out.2 HNL.out t4

end Go.Proofs.Ybulkdkxi.lawS5598AWhole

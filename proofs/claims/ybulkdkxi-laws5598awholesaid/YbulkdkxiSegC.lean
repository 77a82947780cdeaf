import Derived.Test.YbulkdkxiSegD
namespace Go.Proofs.Ybulkdkxi.lawS5598AWhole
open Go.RowKit Go.Deep
open Go.Sort (swp size_swp)
set_option linter.unusedVariables false
set_option linter.unusedSimpArgs false
set_option maxRecDepth 100000 in
set_option maxHeartbeats 8000000 in
theorem segC (u2 u3 u4 u5 u8 u10 u11 u12 u13 u16 u17 u18 u19 u20 u21 u22 u23 u24 u25 u26 u27 u28 u29 u30 u31 u32 u33 u34 u35 u36 u37 u38 u39 u40 u41 u42 u43 u44 u45 u46 u47 u48 u49 u50 u51 u52 u53 u54 u55 u56 u57 u58 u59 u60 u61 u62 u63 u64 u65 u66 u67 u68 u69 u70 u71 u72 u73 u74 u75 u76 u77 u78 u79 u80 u81 u82 u83 u84 u85 u86 u87 u88 u89 u90 u91 u92 u93 u94 u95 u96 u97 u98 u99 u100 u101 u102 u103 u104 u105 u106 u107 u108 u109 u110 u111 u112 u113 u114 u115 u116 u117 u118 u119 u120 u121 u122 u123 u124 u125 u126 u127 u128 u129 u130 u131 u132 u133 u134 u135 u136 u137 u138 u139 u140 u141 u142 u143 u144 u145 u146 u147 u148 u149 u150 u151 u152 u153 u154 u155 u156 u157 u158 u159 u160 u161 u162 u163 u164 u165 u166 u167 u168 u169 u170 u171 u172 u173 u174 u175 u176 u177 u178 u179 u180 u181 u182 u183 u184 u185 u186 u187 u188 u189 u190 u191 u192 u193 u194 u195 u196 u197 u198 u199 u200 u201 u202 u203 : Value) (K : Ks) (w0 W : World) (a0 : Option Addr) (n c0 : Nat) (rv : Value) (d0 dw : Array Int) (oo : Bool) (rb wb : Nat) (hn : n ≤ 4096) (hPl : K.Pl = fun x => ∃ i, i < n ∧ d0[i]! = x)
    (hin : Inc w0 a0 n c0 d0) (h : TC K w0 W n rv d0 dw oo rb wb 2000000000000) (hno : oo = false → St K 0 W) :
    Code.wp Yba.prog (dropSeq 17 (Yba.f3.body.getD .skip)) (bodyPost Yba.prog Yba.f3 fun e w' => e = .returned (.bool true) ∧ Below w0.heap.size w0 w') ⟨#[.slice a0 n c0, .bool oo, u2, u3, u4, u5, pt K.bm, pt K.bn, u8, pt K.bc, u10, u11, u12, u13, pt rb, .slice (some ⟨wb, 0, none⟩) n n, u16, u17, u18, u19, u20, u21, u22, u23, u24, u25, u26, u27, u28, u29, u30, u31, u32, u33, u34, u35, u36, u37, u38, u39, u40, u41, u42, u43, u44, u45, u46, u47, u48, u49, u50, u51, u52, u53, u54, u55, u56, u57, u58, u59, u60, u61, u62, u63, u64, u65, u66, u67, u68, u69, u70, u71, u72, u73, u74, u75, u76, u77, u78, u79, u80, u81, u82, u83, u84, u85, u86, u87, u88, u89, u90, u91, u92, u93, u94, u95, u96, u97, u98, u99, u100, u101, u102, u103, u104, u105, u106, u107, u108, u109, u110, u111, u112, u113, u114, u115, u116, u117, u118, u119, u120, u121, u122, u123, u124, u125, u126, u127, u128, u129, u130, u131, u132, u133, u134, u135, u136, u137, u138, u139, u140, u141, u142, u143, u144, u145, u146, u147, u148, u149, u150, u151, u152, u153, u154, u155, u156, u157, u158, u159, u160, u161, u162, u163, u164, u165, u166, u167, u168, u169, u170, u171, u172, u173, u174, u175, u176, u177, u178, u179, u180, u181, u182, u183, u184, u185, u186, u187, u188, u189, u190, u191, u192, u193, u194, u195, u196, u197, u198, u199, u200, u201, u202, u203], []⟩ W := by
  have mixed := mixedY
  have HT := hid_mk h
  have HPL := hid_mk hPl
  have HIN := hid_mk (hin.below h.bel)
  obtain ⟨ac, nc, cc, xs, rc, oc, pc, hq⟩ := (show Cal K 2000000000000 W from h.st.st.calls)
  have hnc0 : oo = false → nc = 0 := fun ho => by
    obtain ⟨a2, n2, c2, xs2, rc2, _, _, hq2⟩ := (hno ho).st.calls
    have e1 := rc.cell (i := 0) (by omega)
    have e2 := rc2.cell (i := 0) (by omega)
    rw [e1] at e2
    injection e2 with e2
    injection e2 with _ e2
    omega
  have HRC := hid_mk rc
  have HOC := hid_mk oc
  have HPC := hid_mk pc
  have cc0 := rc.cell (i := 0) (by omega)
  clear h hno hin hPl rc oc pc
  conv => arg 2; whnf
  dsimp only
  go_upto_region 38 with fail
  go_cut [165] (fun s wx => s = .bool false ∧ W = wx)
  case first => as_aux_lemma =>
    cases oo with
    | true =>
      go_wp2_with fail
      go_meet
      case rel => exact ⟨rfl, rfl⟩
    | false =>
      obtain rfl : nc = 0 := hnc0 rfl
      go_wp2_with fail
      go_meet
      case rel => exact ⟨rfl, rfl⟩
  case rest => as_aux_lemma =>
  obtain ⟨rfl, rfl⟩ := hcut
  clear hnc0
  go_upto_region 40 with fail
  go_cut [20] (fun s wx => ∃ (ag : Option Addr) (g c' : Nat), s = .slice ag n c' ∧ Hid (Chg [] W wx ∧ ((ag = none ∧ n = 0 ∧ c' = 0) ∨ (ag = some ⟨g, 0, none⟩ ∧ RowA g c' n d0 wx ∧ W.heap.size ≤ g))))
  case first => as_aux_lemma =>
    obtain ⟨hd, ⟨rfl, rfl, rfl⟩ | ⟨x, rfl, hx2⟩⟩ := HIN.out
    · go_wp2_with (first | (go_at_call 10; refine (clone_nil _).mono ?_; rintro e w' ⟨rfl, rfl⟩))
      go_meet
      case rel => exact ⟨none, 0, 0, rfl, Chg.refl _ _, Or.inl (by simp)⟩
    · have hcl := hid_mk (clone_y x n c0 d0 W hd hn hx2)
      go_wp2_with (first | (go_at_call 10; refine hcl.out.mono ?_; rintro e w' ⟨g, c', rfl, hr, hg, hch⟩))
      go_meet
      case rel => exact ⟨_, g, c', rfl, hch, Or.inr ⟨rfl, hr, hg⟩⟩
  case rest => as_aux_lemma =>
  obtain ⟨ag, g, c', rfl, hcl⟩ := hcut
  go_upto_region 41 with fail
  go_cut [169] (fun s wx => Hid (Chg [] W wx ∧ Fnd (.slice ag n c') K.Pl wx))
  case first => as_aux_lemma =>
    obtain ⟨hch, ⟨rfl, rfl, rfl⟩ | ⟨rfl, hr, hg⟩⟩ := hcl.out
    · go_wp2_with (first | (go_at_call 11; refine (sort_nil_o _).mono ?_; rintro e w' ⟨rfl, rfl⟩))
      go_meet
      case rel => exact ⟨hch, fun x W' hp _ => by rw [HPL.out] at hp; obtain ⟨i, hi, _⟩ := hp; omega⟩
    · have hst := hid_mk (srt_y (cap := c') wc g c' n d0 hn hr)
      go_wp2_with (first | (go_at_call 11; refine hst.out.mono ?_; rintro e w' ⟨ds, rfl, hp, hs, hch2, hr2⟩))
      go_meet
      case rel => exact ⟨hch.step hch2 (by intro x hx hlt; simp at hx; omega), by rw [HPL.out]; exact fnd_some hn hr2 hp hs HIN.out.1⟩
  case rest => as_aux_lemma =>
  obtain ⟨hch, hf⟩ := hcut
  have HF := hid_mk hf
  have HCH := hid_mk hch
  have c1 := (hch.row HRC.out (by simp)).cell (i := 0) (by omega)
  apply_assumption
  exact segD _ _ _ _ _ _ _ _ _ _ _ _ _ _ _ _ _ _ _ _ _ _ _ _ _ _ _ _ _ _ _ _ _ _ _ _ _ _ _ _ _ _ _ _ _ _ _ _ _ _ _ _ _ _ _ _ _ _ _ _ _ _ _ _ _ _ _ _ _ _ _ _ _ _ _ _ _ _ _ _ _ _ _ _ _ _ _ _ _ _ _ _ _ _ _ _ _ _ _ _ _ _ _ _ _ _ _ _ _ _ _ _ _ _ _ _ _ _ _ _ _ _ _ _ _ _ _ _ _ _ _ _ _ _ _ _ _ _ _ _ _ _ _ _ _ _ _ _ _ _ _ _ _ _ _ _ _ _ _ _ _ _ _ _ _ _ _ _ _ _ _ _ _ _ _ _ _ _ _ _ _ _ _ _ _ _ _ _ _ _ _ _ _ _ _ _ _ _ K w0 _ n rv _ d0 dw oo rb wb ac nc cc xs hn (HT.out.chg hch) hf (hch.row HRC.out (by simp)) (hch.own HOC.out (by simp)) HPC.out hq
end Go.Proofs.Ybulkdkxi.lawS5598AWhole

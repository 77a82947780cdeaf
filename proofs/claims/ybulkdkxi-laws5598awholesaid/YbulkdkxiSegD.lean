import Derived.Test.YbulkdkxiPlaces
/-! The law's end. -/
namespace Go.Proofs.Ybulkdkxi.lawS5598AWhole
open Go.RowKit Go.Deep
open Go.Sort (swp size_swp)
set_option linter.unusedVariables false
set_option linter.unusedSimpArgs false

def dropSeq : Nat → Code → Code
  | 0, c => c
  | n + 1, .seq _ b => dropSeq n b
  | _ + 1, c => c

theorem eqIn_func (d : Nat) (f : Fn) (a b : Array Value) (w : World) : (Op.equalIn (d + 1) 25 (.func f a b) .nilFunc).run Yba.prog w = .ok false w := by
  simp [Op.equalIn, run_underlying Yba.underlying25]
theorem eq_func (f : Fn) (a b : Array Value) (w : World) : (Op.equal 25 (.func f a b) .nilFunc).run Yba.prog w = .ok false w := eqIn_func 9999 f a b w
theorem func_nil (f : Fn) (a b : Array Value) (w : World) : (binOp .eql 25 (.func f a b) .nilFunc).run Yba.prog w = .ok (.bool false) w := by
  simp only [binOp]
  simp [eq_func f a b w]

/-- The places that came in: nil, or n cells that hold d. -/
def Inc (w : World) (a : Option Addr) (n c : Nat) (d : Array Int) : Prop :=
  d.size = n ∧ ((a = none ∧ n = 0 ∧ c = 0) ∨ ∃ x, a = some x ∧ ∀ i, i < n → w.cell? (x.add i) = some (uV d[i]!))

theorem Inc.below {w w' : World} {a : Option Addr} {n c : Nat} {d : Array Int} (h : Inc w a n c d) (hb : Below w.heap.size w w') : Inc w' a n c d := by
  refine ⟨h.1, h.2.imp id fun ⟨x, h1, h3⟩ => ⟨x, h1, fun i hi => ?_⟩⟩
  have hc := h3 i hi
  have hlt : (x.add i).block < w.heap.size := by
    rcases Nat.lt_or_ge (x.add i).block w.heap.size with hlt | hge
    · exact hlt
    · simp [World.cell?, Array.getElem?_eq_none hge] at hc
  rw [World.cell?_of_block (w := w) (hb.block _ hlt)]
  exact hc

/-- What the law's end is told. -/
structure TC (K : Ks) (w0 W : World) (n : Nat) (rv : Value) (d0 dw : Array Int) (oo : Bool) (rb wb : Nat) (q : Nat) : Prop where
  hK : K.Ok
  lowK : w0.heap.size ≤ K.bm
  st : St K q W
  bel : Below w0.heap.size w0 W
  res : W.rowIs rb 36 2 (fun i => if i = 0 then rv else K.lastV)
  resO : ¬ OwnL K.L K.bc W rb
  want : RowA wb n n dw W
  wantO : ¬ OwnL K.L K.bc W wb
  pl : ∀ i, i < n → K.Pl dw[i]!

theorem TC.moved {K : Ks} {w0 W W' : World} {n : Nat} {rv : Value} {d0 dw : Array Int} {oo : Bool} {rb wb q q' : Nat} (h : TC K w0 W n rv d0 dw oo rb wb q) (hm : Moved K.L K.bc W W') (hs : St K q' W') : TC K w0 W' n rv d0 dw oo rb wb q' := by
  have k1 := h.hK.h1; have k2 := h.hK.h2; have k3 := h.hK.h3; have k4 := h.hK.h4; have k5 := h.hK.h5; have k6 := h.hK.h6; have k7 := h.hK.h7; have k8 := h.hK.h8; have k9 := h.hK.h9; have k10 := h.hK.h10
  refine ⟨h.hK, h.lowK, hs, ?_, hm.row h.res h.resO, (hm.keep rb h.res.lt h.resO).2, h.want.of_block (hm.keep wb h.want.lt h.wantO).1, (hm.keep wb h.want.lt h.wantO).2, h.pl⟩
  refine ⟨hm.os.trans h.bel.os, hm.tape.trans h.bel.tape, hm.output.trans h.bel.output, Nat.le_trans h.bel.size hm.size, fun k hk => ?_⟩
  have hno : ¬ OwnL K.L K.bc W k := h.st.st.calls.free (by have := h.lowK; omega) (by have := h.lowK; simp only [Ks.L, List.mem_cons, List.not_mem_nil, or_false]; omega)
  exact (hm.keep k (Nat.lt_of_lt_of_le hk h.bel.size) hno).1.trans (h.bel.block k hk)

/-- New blocks alone: nothing of it moves. -/
theorem moved_of_chg {K : Ks} {q : Nat} {W W' : World} (h : St K q W) (hK : K.Ok) (hc : Chg [] W W') : Moved K.L K.bc W W' :=
  ⟨hc.os, hc.tape, hc.output, hc.size, fun c hlt hno => ⟨hc.block c hlt (by simp), fun ho => hno (ho.imp id fun ⟨ad, n, k, h1, h2⟩ => ⟨ad, n, k, by
    rw [World.cell?_of_block (w := W) (hc.block K.bc (Nat.lt_of_lt_of_le hK.bcN h.st.low) (by simp))] at h1
    exact h1, h2⟩)⟩⟩
theorem st_of_chg {K : Ks} {q : Nat} {W W' : World} (h : St K q W) (hK : K.Ok) (hc : Chg [] W W') : St K q W' :=
  h.keep hK hc.size (fun c hlt _ _ => hc.block c (Nat.lt_of_lt_of_le hlt h.st.low) (by simp)) (fun c hb => hc.block c (h.st.calls.back hb).2 (by simp))
theorem TC.chg {K : Ks} {w0 W W' : World} {n : Nat} {rv : Value} {d0 dw : Array Int} {oo : Bool} {rb wb q : Nat} (h : TC K w0 W n rv d0 dw oo rb wb q) (hc : Chg [] W W') : TC K w0 W' n rv d0 dw oo rb wb q := h.moved (moved_of_chg h.st h.hK hc) (st_of_chg h.st h.hK hc)

/-- The clone, sorted, finds every place. -/
def Fnd (sv : Value) (Pl : Int → Prop) (w : World) : Prop := ∀ x W, Pl x → Chg [] w W → Calls Yba.prog 12 #[sv, uV x] W fun e w' => ∃ i : Nat, e = .returned (.tuple #[.int .i64 i, .bool true]) ∧ Chg [] W w'

theorem fnd_some {g m n cap : Nat} {d0 ds : Array Int} {w : World} (hn : n ≤ 4096) (hr : RowA g m n ds w) (hp : Sort.PermIn 0 n d0 ds) (hs : Sort.SortedIn ltU 0 n ds) (hd : d0.size = n) : Fnd (.slice (some ⟨g, 0, none⟩) n cap) (fun x => ∃ i, i < n ∧ d0[i]! = x) w := by
  intro x W ⟨i, hi, hx⟩ hc
  have hex : ∃ p, p < n ∧ ds[p]! = x := by
    have hmem : x ∈ (d0.extract 0 n).toList := by
      rw [← hx]
      simp only [Array.toList_extract, List.extract_eq_take_drop, Nat.sub_zero, List.drop_zero]
      rw [List.mem_take_iff_getElem]
      exact ⟨i, by simp; omega, by simp [Array.getElem!_eq_getD, Array.getD, hd, hi]⟩
    have hmem2 := hp.2.2.mem_iff.2 hmem
    simp only [Array.toList_extract, List.extract_eq_take_drop, Nat.sub_zero, List.drop_zero] at hmem2
    rw [List.mem_take_iff_getElem] at hmem2
    obtain ⟨p, hp1, hp2⟩ := hmem2
    have hsz : ds.size = n := hr.1
    exact ⟨p, by simp at hp1; omega, by rw [← hp2]; simp only [Array.getElem_toList]; rw [Array.getElem!_eq_getD, Array.getD, dif_pos (by simp at hp1; omega)]; rfl⟩
  obtain ⟨p, hp1, hp2⟩ := hex
  exact find_y g m n ds x p W hn (hr.chg hc (by simp)) hs hp1 hp2
set_option maxRecDepth 100000 in
set_option maxHeartbeats 8000000 in
theorem segD (u0 u1 u2 u3 u4 u5 u8 u10 u11 u12 u13 u16 u17 u18 u19 u21 u22 u23 u24 u25 u26 u27 u28 u29 u30 u31 u32 u33 u34 u35 u36 u37 u38 u39 u40 u41 u42 u43 u44 u45 u46 u47 u48 u49 u50 u51 u52 u53 u54 u55 u56 u57 u58 u59 u60 u61 u62 u63 u64 u65 u66 u67 u68 u69 u70 u71 u72 u73 u74 u75 u76 u77 u78 u79 u80 u81 u82 u83 u84 u85 u86 u87 u88 u89 u90 u91 u92 u93 u94 u95 u96 u97 u98 u99 u100 u101 u102 u103 u104 u105 u106 u107 u108 u109 u110 u111 u112 u113 u114 u115 u116 u117 u118 u119 u120 u121 u122 u123 u124 u125 u126 u127 u128 u129 u130 u131 u132 u133 u134 u135 u136 u137 u138 u139 u140 u141 u142 u143 u144 u145 u146 u147 u148 u149 u150 u151 u152 u153 u154 u155 u156 u157 u158 u159 u160 u161 u162 u163 u164 u165 u166 u167 u168 u169 u170 u171 u172 u173 u174 u175 u176 u177 u178 u179 u180 u181 u182 u183 u184 u185 u186 u187 u188 u189 u190 u191 u192 u193 u194 u195 u196 u197 u198 u199 u200 u201 u202 u203 : Value) (K : Ks) (w0 W : World) (n : Nat) (rv sv : Value) (d0 dw : Array Int) (oo : Bool) (rb wb : Nat) (ac : Option Addr) (nc cc : Nat) (xs : List Int) (hn : n ≤ 4096)
    (h : TC K w0 W n rv d0 dw oo rb wb 2000000000000) (hf : Fnd sv K.Pl W) (rc : W.rowIs K.bc 22 1 (fun _ => .slice ac nc cc)) (oc : W.ownsRow K.N 23 1 (.slice ac nc cc) nc (xs.map uV)) (pc : ∀ x ∈ xs, K.Pl x) (hq : nc ≤ 2000000000000) :
    Code.wp Yba.prog (dropSeq 20 (Yba.f3.body.getD .skip)) (bodyPost Yba.prog Yba.f3 fun e w' => e = .returned (.bool true) ∧ Below w0.heap.size w0 w') ⟨#[u0, u1, u2, u3, u4, u5, pt K.bm, pt K.bn, u8, pt K.bc, u10, u11, u12, u13, pt rb, .slice (some ⟨wb, 0, none⟩) n n, u16, u17, u18, u19, sv, u21, u22, u23, u24, u25, u26, u27, u28, u29, u30, u31, u32, u33, u34, u35, u36, u37, u38, u39, u40, u41, u42, u43, u44, u45, u46, u47, u48, u49, u50, u51, u52, u53, u54, u55, u56, u57, u58, u59, u60, u61, u62, u63, u64, u65, u66, u67, u68, u69, u70, u71, u72, u73, u74, u75, u76, u77, u78, u79, u80, u81, u82, u83, u84, u85, u86, u87, u88, u89, u90, u91, u92, u93, u94, u95, u96, u97, u98, u99, u100, u101, u102, u103, u104, u105, u106, u107, u108, u109, u110, u111, u112, u113, u114, u115, u116, u117, u118, u119, u120, u121, u122, u123, u124, u125, u126, u127, u128, u129, u130, u131, u132, u133, u134, u135, u136, u137, u138, u139, u140, u141, u142, u143, u144, u145, u146, u147, u148, u149, u150, u151, u152, u153, u154, u155, u156, u157, u158, u159, u160, u161, u162, u163, u164, u165, u166, u167, u168, u169, u170, u171, u172, u173, u174, u175, u176, u177, u178, u179, u180, u181, u182, u183, u184, u185, u186, u187, u188, u189, u190, u191, u192, u193, u194, u195, u196, u197, u198, u199, u200, u201, u202, u203], []⟩ W := by
  have mixed := mixedY
  have HT := hid_mk h
  have HF := hid_mk hf
  have HOC := hid_mk oc
  have HPC := hid_mk pc
  have c1 := rc.cell (i := 0) (by omega)
  clear h hf rc oc pc
  conv => arg 2; whnf
  dsimp only
  go_upto_block 6 with fail
  go_cut [172] (fun s wx => Hid (Chg [] W wx))
  case first => as_aux_lemma =>
    go_wp2_with fail
    go_loopg [172] nc (fun gk s wr => ∃ k : Nat, s = .int .i64 k ∧ k ≤ nc ∧ nc - k ≤ gk ∧ Hid (Chg [] W wr))
    case atStart => exact ⟨0, rfl, Nat.zero_le _, by omega, Chg.refl _ _⟩
    case round =>
      obtain ⟨k, rfl, hk, hgk, hch⟩ := hrel
      by_cases hlt : k < nc
      · have hkz : (k : Int) < (nc : Int) := by omega
        obtain ⟨hl, hv | ⟨g, cap, cur, hv, hb, hh, h1, h2, h3, h4⟩⟩ := HOC.out
        · omega
        injection hv with hv hv2 hv3
        subst hv
        have hxl : k < xs.length := by simp at hl; omega
        have hcell : wr.cell? ⟨g, k, none⟩ = some (uV xs[k]) := by
          have hk4 : cur[k]? = some (uV xs[k]) := by
            have e := congrArg (fun l => l[k]?) h4
            simp only [List.getElem?_take_of_lt (show k < nc * 1 by omega), Array.getElem?_toList, List.getElem?_map, List.getElem?_eq_getElem hxl, Option.map_some] at e
            exact e
          have hc0 : W.cell? ⟨g, k, none⟩ = some (uV xs[k]) := by simp [World.cell?, hh, hk4]
          exact hch.out.cell hc0 (by simp)
        have hfx := hid_mk (HF.out xs[k] wr (HPC.out _ (List.getElem_mem hxl)) hch.out)
        generalize xs[k] = x at *
        clear hh h4 hv3 hv2 hl h1 h2 h3
        go_wp2_with (first | (go_at_call 12; refine hfx.out.mono ?_; rintro e w' ⟨i, rfl, hch2⟩))
        have hch3 : Hid (Chg [] W w') := hch.out.step hch2 (by simp)
        go_roundg (nc - (k + 1))
        case measure => omega
        case rel => exact ⟨k + 1, by go_num, by omega, Nat.le_refl _, hch3⟩
      · have hkz : ¬ (k : Int) < (nc : Int) := by omega
        go_wp2_with fail
        go_meet
        case rel => exact hch
  case rest => as_aux_lemma =>
  have HT2 := hid_mk (HT.out.chg hcut.out)
  clear HT HF HOC HPC hcut c1
  have cr : wc.cell? ⟨rb, 1, none⟩ = some (.func (.func 22) #[] #[pt K.bk, pt K.bp, pt K.be, pt K.bd, pt K.bo]) := HT2.out.res.cell (i := 1) (by omega)
  have hfn := func_nil (.func 22) #[] #[pt K.bk, pt K.bp, pt K.be, pt K.bd, pt K.bo]
  go_upto_block 8 with fail
  clear cr hfn
  go_wp2_with fail
  go_loopg [190] n (fun gk s wr => ∃ k : Nat, s = .int .i64 k ∧ k ≤ n ∧ n - k ≤ gk ∧ Hid (TC K w0 wr n rv d0 dw oo rb wb (2000000000000 + k)))
  case atStart => exact ⟨0, rfl, Nat.zero_le _, by omega, HT2⟩
  case round =>
    obtain ⟨k, rfl, hk, hgk, HT3⟩ := hrel
    clear HT2
    by_cases hlt : k < n
    · have hkz : (k : Int) < (n : Int) := by omega
      have cw := HT3.out.want.cell k hlt
      have hpx := HT3.out.pl k hlt
      obtain ⟨x, hx⟩ : ∃ x, x = dw[k]! := ⟨_, rfl⟩
      rw [← hx] at cw hpx
      clear hx
      have tcd : Hid (TC K w0 wr.drew n rv d0 dw oo rb wb (2000000000000 + k)) := HT3.out.chg ((Chg.refl [] wr).drew)
      have hl := hid_mk (last_y K HT3.out.hK (2000000000000 + k) x wr.drew hpx (by omega) tcd.out.st)
      have hd := hid_mk (fun w => dec_y x K.mask K.neg w (HT3.out.hK.up x hpx) HT3.out.hK.um)
      have cr : wr.drew.cell? ⟨rb, 1, none⟩ = some (.func (.func 22) #[] #[pt K.bk, pt K.bp, pt K.be, pt K.bd, pt K.bo]) := tcd.out.res.cell (i := 1) (by omega)
      have cm : wr.drew.cell? ⟨K.bm, 0, none⟩ = some (uV K.mask) := tcd.out.st.st.mask.cell (i := 0) (by omega)
      have cn : wr.drew.cell? ⟨K.bn, 0, none⟩ = some (.bool K.neg) := tcd.out.st.st.neg.cell (i := 0) (by omega)
      go_upto_region 54 with fail
      go_region_held3 (fun w' => w'.cell? ⟨rb, 1, none⟩ = some (.func (.func 22) #[] #[pt K.bk, pt K.bp, pt K.be, pt K.bd, pt K.bo]) ∧ w'.cell? ⟨K.bm, 0, none⟩ = some (uV K.mask) ∧ w'.cell? ⟨K.bn, 0, none⟩ = some (.bool K.neg)) (first | exact ⟨cr, cm, cn⟩ | exact ⟨(M1.row tcd.out.res tcd.out.resO).cell (i := 1) (by omega), S1.st.mask.cell (i := 0) (by omega), S1.st.neg.cell (i := 0) (by omega)⟩) (first | (go_at_call 22; refine hl.out.mono ?_; rintro e w1 ⟨rfl, S1, M1⟩) | (go_at_call 5; refine (hd.out _).mono ?_; rintro e w2 ⟨rfl, rfl⟩))
      have HT4 : Hid (TC K w0 w2 n rv d0 dw oo rb wb (2000000000000 + (k + 1))) := tcd.out.moved M1 S1
      clear cr cm cn hl hd tcd HT3 M1 S1 cw
      go_wp2_with fail
      go_roundg (n - (k + 1))
      case measure => omega
      case rel => exact ⟨k + 1, by go_num, by omega, Nat.le_refl _, HT4⟩
    · have hkz : ¬ (k : Int) < (n : Int) := by omega
      go_wp2_with fail
      go_ret
      exact ⟨rfl, HT3.out.bel⟩

end Go.Proofs.Ybulkdkxi.lawS5598AWhole

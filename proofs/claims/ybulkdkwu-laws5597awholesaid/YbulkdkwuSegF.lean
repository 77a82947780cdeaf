import Derived.Test.YbulkdkwuSegW
import Derived.Test.YbulkdkwuFinZ
namespace Go.Proofs.Ybulkdkwu.lawS5597AWhole
open Go.RowKit Go.Deep
set_option linter.unusedVariables false
set_option linter.unusedSimpArgs false

/-- A slice of bytes that came in. -/
def Inc (w : World) (a : Option Addr) (L : Nat) (D : Nat → Int) : Prop :=
  L = 0 ∨ ∃ b o, a = some ⟨b, o, none⟩ ∧ b < w.heap.size ∧ ∀ t, t < L → w.cell? ⟨b, o + t, none⟩ = some (.int .u8 (D t))

/-- The world in which Finish is called. -/
structure Pre (bs ds lvb dsb bb cb logb fa fb pb eb sb L cd ns cs : Nat) (n F : Int) (sa ad a7 : Option Addr) (a4 a5 : Bool) (D D2 : Nat → Int) (w W : World) : Prop where
  f : W.rowIs fa 3 1 (fun _ => .int .i64 F)
  d : W.rowIs dsb 3 1 (fun _ => .int .i64 ds)
  v : W.rowIs fb 26 1 (fun _ => .iface 60 (pt eb))
  lv : W.rowIs lvb 4 1 (fun _ => .bool true)
  l : W.rowIs logb 30 1 (fun _ => .slice none 0 0)
  c : W.rowIs cb 3 1 (fun _ => .int .i64 0)
  b : W.rowIs bb 55 7 (bRow bs ds lvb dsb cb logb fa fb pb n (.slice sa ns cs))
  p3 : W.cell? ⟨pb, 3, none⟩ = some (.chan none)
  p6 : (a4 = false ∧ W.cell? ⟨pb, 6, none⟩ = some (.pointer none)) ∨ (a4 = true ∧ ∃ ch, W.cell? ⟨pb, 6, none⟩ = some (pt ch) ∧ W.cell? ⟨ch, 0, none⟩ = some (.slice ad L cd))
  p8 : W.cell? ⟨pb, 8, none⟩ = some (if a5 = true then .iface 60 (pt sb) else .nilIface)
  dv : W.ownsRow w.heap.size 5 1 (.slice ad L cd) L (bl D L)
  sv : W.ownsRow w.heap.size 5 1 (.slice sa ns cs) ns (bl D2 ns)
  ap : ∀ x, (Value.slice ad L cd).ownBlock = some x → (Value.slice sa ns cs).ownBlock ≠ some x
  fc : fa ≠ cb
  dc : dsb ≠ cb
  chg : Chg [] w W
  sn : sa.isNone = a7.isNone
  own : w.heap.size ≤ bb ∧ w.heap.size ≤ cb ∧ w.heap.size ≤ logb

theorem own_bs {W : World} {base n c : Nat} {a : Option Addr} {D : Nat → Int} (h : W.ownsRow base 5 1 (.slice a n c) n (bl D n)) : Bs W (.slice a n c) n D := by
  refine ⟨a, c, rfl, ?_⟩
  rcases h.2 with ⟨g1, g2⟩ | ⟨g1, c1, cur, g2, _⟩
  · exact .inl g2
  · injection g2 with g2 _ g4
    subst g2; subst g4
    exact .inr ⟨g1, 0, rfl, fun i hi => by rw [Nat.zero_add, h.cellAt i (by omega)]; exact bl_get _ hi⟩
theorem Inc.bs {w W : World} {a : Option Addr} {L c : Nat} {D : Nat → Int} (h : Inc w a L D) (hb : Below w.heap.size w W) : Bs W (.slice a L c) L D := by
  refine ⟨a, c, rfl, ?_⟩
  rcases h with h | ⟨b, o, h1, h2, h3⟩
  · exact .inl h
  · exact .inr ⟨b, o, h1, fun i hi => by rw [hb.cell (p := ⟨b, o + i, none⟩) h2]; exact h3 i hi⟩

set_option maxRecDepth 100000 in
set_option maxHeartbeats 4000000 in
theorem segF (u0 u1 u6 u8 u9 u10 u11 u12 u13 u15 u16 u20 u24 u27 u28 u30 u31 u32 u33 u34 u35 u36 u37 u38 u39 u40 u41 u42 u43 u44 u45 u46 u47 u48 u49 u50 u51 u52 u53 u54 u55 u56 u57 u58 u59 u60 u61 u62 u63 u64 u65 u66 u67 u68 u69 u70 u71 u72 u73 u74 u75 u76 u77 u78 u79 u80 u81 u82 u83 u84 u85 u86 u87 u88 u89 u90 u91 u92 u93 u94 u95 u96 u97 u98 u99 u100 u101 u102 u103 u104 u105 u106 u107 u108 u109 u110 u111 u112 u113 u114 u115 u116 u117 u118 u119 u120 u121 u122 u123 u124 u125 u126 u127 u128 u129 u130 u131 u132 u133 u134 u135 u136 u137 u138 u139 u140 u141 u142 u143 u144 u145 u146 u147 u148 u149 u150 u151 u152 u153 u154 u155 u156 u157 u158 u159 u160 u161 u162 u163 u164 u165 u166 u167 u168 u169 u170 u171 u172 u173 u174 u175 u176 u177 u178 u179 u180 u181 u182 u183 u184 u185 u186 u187 u188 u189 u190 u191 u192 u193 u194 u195 u196 u197 u198 u199 u200 u201 u202 u203 u204 u205 u206 u207 u208 u209 u210 u211 u212 u213 u214 u215 u216 u217 u218 u219 u220 u221 u222 u223 u224 u225 u226 u227 u228 u229 u230 u231 u232 u233 u234 u235 u236 u237 u238 u239 u240 u241 u242 u243 u244 u245 u246 u247 u248 u249 u250 u251 u252 u253 u254 u255 u256 u257 u258 u259 u260 u261 u262 u263 u264 u265 u266 u267 u268 u269 u270 u271 u272 u273 u274 u275 u276 u277 u278 u279 u280 u281 u282 : Value) (a4 a5 : Bool) (n F : Int) (fa dsb fb lvb logb cb bb pb eb sb ds bs L c3 cd ns cs c7 : Nat) (a3 a7 sa ad : Option Addr) (D D2 : Nat → Int) (w W : World)
    (hn : 0 ≤ n ∧ n ≤ 18446744073709551615) (hF : -9223372036854775808 ≤ F ∧ F ≤ 9223372036854775807) (hds : 0 < ds ∧ ds ≤ 8) (hbs : 0 < bs ∧ bs ≤ 16) (hL : L ≤ 65536) (hns : ns ≤ 65536) (hc3 : L ≤ c3)
    (hD : ∀ t, t < L → 0 ≤ D t ∧ D t ≤ 255) (i3 : Inc w a3 L D) (i7 : Inc w a7 ns D2)
    (p : Pre bs ds lvb dsb bb cb logb fa fb pb eb sb L cd ns cs n F sa ad a7 a4 a5 D D2 w W) :
    Code.wp Yba.prog (dropSeq 17 (Yba.f3.body.getD .skip)) (bodyPost Yba.prog Yba.f3 fun e w' => e = .returned (.bool true) ∧ Below w.heap.size w w') ⟨#[u0, u1, .int .u64 n, .slice a3 L c3, .bool a4, .bool a5, u6, .slice a7 ns c7, u8, u9, u10, u11, u12, u13, pt fa, u15, u16, .int .i64 bs, pt dsb, .slice ad L cd, u20, .iface 60 (pt sb), pt fb, pt lvb, u24, pt logb, pt cb, u27, u28, pt bb, u30, u31, u32, u33, u34, u35, u36, u37, u38, u39, u40, u41, u42, u43, u44, u45, u46, u47, u48, u49, u50, u51, u52, u53, u54, u55, u56, u57, u58, u59, u60, u61, u62, u63, u64, u65, u66, u67, u68, u69, u70, u71, u72, u73, u74, u75, u76, u77, u78, u79, u80, u81, u82, u83, u84, u85, u86, u87, u88, u89, u90, u91, u92, u93, u94, u95, u96, u97, u98, u99, u100, u101, u102, u103, u104, u105, u106, u107, u108, u109, u110, u111, u112, u113, u114, u115, u116, u117, u118, u119, u120, u121, u122, u123, u124, u125, u126, u127, u128, u129, u130, u131, u132, u133, u134, u135, u136, u137, u138, u139, u140, u141, u142, u143, u144, u145, u146, u147, u148, u149, u150, u151, u152, u153, u154, u155, u156, u157, u158, u159, u160, u161, u162, u163, u164, u165, u166, u167, u168, u169, u170, u171, u172, u173, u174, u175, u176, u177, u178, u179, u180, u181, u182, u183, u184, u185, u186, u187, u188, u189, u190, u191, u192, u193, u194, u195, u196, u197, u198, u199, u200, u201, u202, u203, u204, u205, u206, u207, u208, u209, u210, u211, u212, u213, u214, u215, u216, u217, u218, u219, u220, u221, u222, u223, u224, u225, u226, u227, u228, u229, u230, u231, u232, u233, u234, u235, u236, u237, u238, u239, u240, u241, u242, u243, u244, u245, u246, u247, u248, u249, u250, u251, u252, u253, u254, u255, u256, u257, u258, u259, u260, u261, u262, u263, u264, u265, u266, u267, u268, u269, u270, u271, u272, u273, u274, u275, u276, u277, u278, u279, u280, u281, u282], []⟩ W := by
  have hbelW : Below w.heap.size w W := p.chg.below (Below.refl _ w) (Nat.le_refl _) (by simp)
  cases a5 with
  | true => as_aux_lemma =>
    have hfin := finish_err bb pb 60 (pt sb) W (p.b.cell (i := 4) (by omega)) p.p3 (by have := p.p8; simpa using this)
    have he1 := equal_bs (own_bs p.dv) (i3.bs (c := c3) hbelW)
    have he2 := equal_bs (own_bs p.sv) (i7.bs (c := c7) hbelW)
    have hlv := p.lv.cell (i := 0) (by omega)
    have hcb := p.c.cell (i := 0) (by omega)
    have hb5 : W.cell? ⟨bb, 5, none⟩ = some (.int .u64 n) := p.b.cell (i := 5) (by omega)
    have hb6 : W.cell? ⟨bb, 6, none⟩ = some (.slice sa ns cs) := p.b.cell (i := 6) (by omega)
    have hsn := p.sn
    have hif := iface_same sb
    have hnl := fun (w : World) (a : Option Addr) (n c : Nat) => Lib.run_eql_slice_nil (P := Yba.prog) w 23 5 a n c 0 0 Yba.underlying23
    have HB := hid_mk hbelW
    clear p hbelW i3 i7 hD
    conv => arg 2; whnf
    go_upto_region 26 with (first | (go_at_call 9; refine hfin.mono ?_; rintro e w' ⟨rfl, rfl⟩) | (go_at_call 10; refine he1.mono ?_; rintro e w' ⟨rfl, rfl⟩))
    go_wp2_with (go_at_call 10; refine he2.mono ?_; rintro e w' ⟨rfl, rfl⟩)
    go_ret
    exact ⟨by simp [hsn], HB.out⟩
  | false => as_aux_lemma =>
    have hnotin : ∀ {x t m : Nat} {f : Nat → Value}, W.rowIs x t m f → x ≠ cb → t ≠ 55 → t ≠ 30 → t ≠ 5 → x ∉ bb :: cb :: logb :: (Value.slice sa ns cs).ownBlock.toList := fun hr h1 h2 h3 h4 hm => by
      simp only [List.mem_cons, Option.mem_toList] at hm
      rcases hm with hm | hm | hm | hm
      · exact row_ne hr p.b h2 hm
      · exact h1 hm
      · exact row_ne hr p.l h3 hm
      · exact own_row_apart p.sv hr (fun e => h4 e.symm) hm
    have hdvno : ∀ x, (Value.slice ad L cd).ownBlock = some x → x ∉ bb :: cb :: logb :: (Value.slice sa ns cs).ownBlock.toList := fun x hx hm => by
      simp only [List.mem_cons, Option.mem_toList] at hm
      rcases hm with hm | hm | hm | hm
      · rw [hm] at hx; exact own_row_apart p.dv p.b (by decide) hx
      · rw [hm] at hx; exact own_row_apart p.dv p.c (by decide) hx
      · rw [hm] at hx; exact own_row_apart p.dv p.l (by decide) hx
      · exact p.ap x hx hm
    have hge : ∀ x ∈ bb :: cb :: logb :: (Value.slice sa ns cs).ownBlock.toList, w.heap.size ≤ x → True := fun _ _ _ => trivial
    have hbelow : ∀ W2, Chg (bb :: cb :: logb :: (Value.slice sa ns cs).ownBlock.toList) W W2 → Below w.heap.size w W2 := fun W2 h => h.below hbelW p.chg.size (by
      intro x hx
      simp only [List.mem_cons, Option.mem_toList] at hx
      rcases hx with hx | hx | hx | hx
      · rw [hx]; exact p.own.1
      · rw [hx]; exact p.own.2.1
      · rw [hx]; exact p.own.2.2
      · exact (p.sv.lt x hx).1)
    have hafter : ∀ W2, Chg (bb :: cb :: logb :: (Value.slice sa ns cs).ownBlock.toList) W W2 → W2.cell? ⟨lvb, 0, none⟩ = some (.bool true) ∧ W2.cell? ⟨dsb, 0, none⟩ = some (.int .i64 ds) ∧ Below w.heap.size w W2 ∧
        (Calls Yba.prog 10 #[.slice ad L cd, .slice a3 L c3] W2 fun e w' => e = .returned (.bool true) ∧ w' = W2) ∧ (L = 0 ∨ ∃ b o, a3 = some ⟨b, o, none⟩ ∧ ∀ t, t < L → W2.cell? ⟨b, o + t, none⟩ = some (.int .u8 (D t))) := fun W2 h => by
      have hb2 := hbelow W2 h
      refine ⟨(h.row p.lv (hnotin p.lv (row_ne p.lv p.c (by decide)) (by decide) (by decide) (by decide))).cell (i := 0) (by omega), (h.row p.d (hnotin p.d p.dc (by decide) (by decide) (by decide))).cell (i := 0) (by omega), hb2, equal_bs (own_bs (h.own p.dv hdvno)) (i3.bs hb2), ?_⟩
      rcases i3 with h1 | ⟨b, o, h1, h2, h3⟩
      · exact .inl h1
      · exact .inr ⟨b, o, h1, fun t ht => by rw [hb2.cell (p := ⟨b, o + t, none⟩) h2]; exact h3 t ht⟩
    have hp8 : W.cell? ⟨pb, 8, none⟩ = some .nilIface := by have := p.p8; simpa using this
    obtain ⟨g, hg0, hgc, hgb, hgs⟩ : ∃ g, ((ad = none ∧ L = 0 ∧ cd = 0) ∨ ad = some ⟨g, 0, none⟩) ∧ (L ≤ cd ∧ ∀ t, t < L → W.cell? ⟨g, t, none⟩ = some (.int .u8 (D t))) ∧ (L = 0 ∨ (g < W.heap.size ∧ g ≠ bb ∧ g ≠ cb ∧ g ≠ logb)) ∧ (Value.slice sa ns cs).ownBlock ≠ some g := by
      rcases p.dv.2 with ⟨g2, g1⟩ | ⟨g1, c1, cur, g2, g5, g6, g3, _⟩
      · injection g2 with q1 q2 q3
        obtain ⟨x, hx⟩ : ∃ x, (Value.slice sa ns cs).ownBlock ≠ some x := by
          cases h : (Value.slice sa ns cs).ownBlock with
          | none => exact ⟨0, by simp⟩
          | some y => exact ⟨y + 1, by simp⟩
        exact ⟨x, .inl ⟨q1, q2, q3⟩, ⟨by omega, fun t ht => by omega⟩, .inl q2, hx⟩
      · have hd0 := p.dv
        injection g2 with q1 _ q3
        subst q1; subst q3
        refine ⟨g1, .inr rfl, ⟨g3, fun t ht => by rw [hd0.cellAt t (by omega)]; exact bl_get _ ht⟩, .inr ⟨(hd0.lt g1 rfl).2, ?_, ?_, ?_⟩, p.ap g1 rfl⟩
        · rintro rfl; exact own_row_apart hd0 p.b (by decide) rfl
        · rintro rfl; exact own_row_apart hd0 p.c (by decide) rfl
        · rintro rfl; exact own_row_apart hd0 p.l (by decide) rfl
    have HA := hid_mk hafter
    have hnl := fun (w : World) (a : Option Addr) (n c : Nat) => Lib.run_eql_slice_nil (P := Yba.prog) w 23 5 a n c 0 0 Yba.underlying23
    cases a4 with
    | true => as_aux_lemma =>
      obtain ⟨ch, h6, h0⟩ : ∃ ch, W.cell? ⟨pb, 6, none⟩ = some (pt ch) ∧ W.cell? ⟨ch, 0, none⟩ = some (.slice ad L cd) := by
        rcases p.p6 with ⟨h, _⟩ | ⟨_, h⟩
        · cases h
        · exact h
      have hLk : L = L / bs * bs + L % bs := by rw [Nat.mul_comm]; exact (Nat.div_add_mod L bs).symm
      have hkk : L / bs ≤ 65536 := Nat.le_trans (Nat.div_le_self _ _) hL
      have hfin := finish_ok (bs := bs) (ds := ds) (lvb := lvb) (dsb := dsb) (bb := bb) (cb := cb) (logb := logb) (fa := fa) (fb := fb) (pb := pb) (k := L / bs) (r := L % bs) (L := L) (cd := cd) (ns := ns) (cs := cs) (g := g) (base := w.heap.size) (n := n) (F := F) (sa := sa) (ad := ad) (fv := .iface 60 (pt eb)) (D := D) (D2 := D2) (w := W)
        hn hds hbs hLk (Nat.mod_lt _ hbs.1) hL hgc.1 (.inr ⟨ch, h6, h0⟩) hg0 (fun t ht => ⟨hgc.2 t ht, hD t ht⟩) (by rcases hgb with h | h; exact .inl h; exact .inr h.1) hgs p.sv p.chg.size p.p3 hp8 p.d p.b p.c p.l p.f p.v p.fc ⟨60, _, rfl⟩ (by rcases hgb with h | h; exact .inl h; exact .inr h.2)
      have HX := hid_mk (And.intro hn (And.intro hF (And.intro hds (And.intro hbs (And.intro hL (And.intro hLk (And.intro hkk hD)))))))
      clear p hbelW i3 i7 hnotin hdvno hge hbelow hafter hg0 hgc hgb hgs h6 h0 hp8 hLk hkk hn hF hds hbs hL hD
      conv => arg 2; whnf
      go_wp2_with fail
      refine hfin.mono ?_
      intro e W2 hp
      have hch0 : Chg (bb :: cb :: logb :: (Value.slice sa ns cs).ownBlock.toList) W W2 := by obtain ⟨_, _, _, _, _, _, _, _, h, _⟩ := hp; exact h
      obtain ⟨hlv, hdw, hbel2, he1, hrest⟩ := HA.out W2 hch0
      obtain ⟨rv, ev, tv, fl, stop, bn, al, gl, cl, gd, cdd, rfl, hfl, hz, -⟩ := hp.zed (a4 := true) hdw ⟨eb, rfl⟩ (by simp) hrest hc3
      have HZ := hid_mk (And.intro hfl (And.intro hz (And.intro hdw (And.intro hrest hbel2))))
      clear hfin hp hch0 hfl hz hrest hbel2 HA hdw
      go_upto_if 139 with (go_at_call 10; refine he1.mono ?_; rintro e w' ⟨rfl, rfl⟩)
      go_cut [32] (fun s32 wx => s32 = .slice a3 L c3 ∧ w' = wx)
      case first => as_aux_lemma =>
        clear he1
        go_wp2_with fail
        go_meet
        case rel => exact ⟨rfl, rfl⟩
      case rest => as_aux_lemma =>
        obtain ⟨rfl, rfl⟩ := hcut
        obtain ⟨hfl, hz, hdw, hrest, hbel2⟩ := HZ.out
        obtain ⟨hn, hF, hds, hbs, hL, hLk, hkk, hD⟩ := HX.out
        apply_assumption
        exact segW _ _ _ _ _ _ _ _ _ _ _ _ _ _ _ _ _ _ _ _ _ _ _ _ _ _ _ _ _ _ _ _ _ _ _ _ _ _ _ _ _ _ _ _ _ _ _ _ _ _ _ _ _ _ _ _ _ _ _ _ _ _ _ _ _ _ _ _ _ _ _ _ _ _ _ _ _ _ _ _ _ _ _ _ _ _ _ _ _ _ _ _ _ _ _ _ _ _ _ _ _ _ _ _ _ _ _ _ _ _ _ _ _ _ _ _ _ _ _ _ _ _ _ _ _ _ _ _ _ _ _ _ _ _ _ _ _ _ _ _ _ _ _ _ _ _ _ _ _ _ _ _ _ _ _ _ _ _ _ _ _ _ _ _ _ _ _ _ _ _ _ _ _ _ _ _ _ _ _ _ _ _ _ _ _ _ _ _ _ _ _ _ _ _ _ _ _ _ _ _ _ _ _ _ _ _ _ _ _ _ _ _ _ _ _ _ _ _ _ _ _ _ _ _ _ _ _ _ _ _ _ _ _ _ _ _ _ _ _ _ _ _ _ _ _ _ _ _ _ _ _ _ _ _ _ _ _ _ _ _ _ _ _ _ _ _ _ _ _ _ _ true n F fa dsb fb logb cb bb (L / bs) ds bs stop (L % bs) gl cl L c3 bn rv ev (.iface 60 (pt eb)) tv al a3 gd cdd D w w' hn hF hds hkk hbs hLk (Nat.mod_lt _ hbs.1) hL ⟨eb, rfl⟩ hD hz hdw hrest hc3 hbel2 fl hfl
    | false => as_aux_lemma =>
      have h6 : W.cell? ⟨pb, 6, none⟩ = some (.pointer none) := by
        rcases p.p6 with ⟨_, h⟩ | ⟨h, _⟩
        · exact h
        · cases h
      have hfin := finish_ok (bs := bs) (ds := ds) (lvb := lvb) (dsb := dsb) (bb := bb) (cb := cb) (logb := logb) (fa := fa) (fb := fb) (pb := pb) (k := 0) (r := 0) (L := 0) (cd := 0) (ns := ns) (cs := cs) (g := g) (base := w.heap.size) (n := n) (F := F) (sa := sa) (ad := none) (fv := .iface 60 (pt eb)) (D := D) (D2 := D2) (w := W)
        hn hds hbs (by simp) hbs.1 (by omega) (Nat.le_refl _) (.inl ⟨h6, rfl, rfl, rfl⟩) (.inl ⟨rfl, rfl, rfl⟩) (fun t ht => by omega) (.inl rfl) hgs p.sv p.chg.size p.p3 hp8 p.d p.b p.c p.l p.f p.v p.fc ⟨60, _, rfl⟩ (.inl rfl)
      have HX := hid_mk (And.intro hn (And.intro hF (And.intro hds hbs)))
      clear p hbelW i3 i7 hnotin hdvno hge hbelow hafter hg0 hgc hgb hgs h6 hp8 hn hF hds hbs hL hD
      conv => arg 2; whnf
      go_wp2_with fail
      refine hfin.mono ?_
      intro e W2 hp
      have hch0 : Chg (bb :: cb :: logb :: (Value.slice sa ns cs).ownBlock.toList) W W2 := by obtain ⟨_, _, _, _, _, _, _, _, h, _⟩ := hp; exact h
      obtain ⟨hlv, hdw, hbel2, he1, -⟩ := HA.out W2 hch0
      obtain ⟨rv, ev, tv, fl, stop, bn, al, gl, cl, gd, cdd, rfl, hfl, hz, -⟩ := hp.zed (a4 := false) (ta := none) (Lt := 0) (ct := 0) hdw ⟨eb, rfl⟩ (fun _ => rfl) (.inl rfl) (Nat.le_refl _)
      have HZ := hid_mk (And.intro hfl (And.intro hz (And.intro hdw hbel2)))
      clear hfin hp hch0 hfl hz hbel2 HA hdw
      go_upto_if 139 with (go_at_call 10; refine he1.mono ?_; rintro e w' ⟨rfl, rfl⟩)
      go_cut [32] (fun s32 wx => s32 = .slice none 0 0 ∧ w' = wx)
      case first => as_aux_lemma =>
        clear he1
        go_wp2_with fail
        go_meet
        case rel => exact ⟨rfl, rfl⟩
      case rest => as_aux_lemma =>
        obtain ⟨rfl, rfl⟩ := hcut
        obtain ⟨hfl, hz, hdw, hbel2⟩ := HZ.out
        obtain ⟨hn, hF, hds, hbs⟩ := HX.out
        apply_assumption
        exact segW _ _ _ _ _ _ _ _ _ _ _ _ _ _ _ _ _ _ _ _ _ _ _ _ _ _ _ _ _ _ _ _ _ _ _ _ _ _ _ _ _ _ _ _ _ _ _ _ _ _ _ _ _ _ _ _ _ _ _ _ _ _ _ _ _ _ _ _ _ _ _ _ _ _ _ _ _ _ _ _ _ _ _ _ _ _ _ _ _ _ _ _ _ _ _ _ _ _ _ _ _ _ _ _ _ _ _ _ _ _ _ _ _ _ _ _ _ _ _ _ _ _ _ _ _ _ _ _ _ _ _ _ _ _ _ _ _ _ _ _ _ _ _ _ _ _ _ _ _ _ _ _ _ _ _ _ _ _ _ _ _ _ _ _ _ _ _ _ _ _ _ _ _ _ _ _ _ _ _ _ _ _ _ _ _ _ _ _ _ _ _ _ _ _ _ _ _ _ _ _ _ _ _ _ _ _ _ _ _ _ _ _ _ _ _ _ _ _ _ _ _ _ _ _ _ _ _ _ _ _ _ _ _ _ _ _ _ _ _ _ _ _ _ _ _ _ _ _ _ _ _ _ _ _ _ _ _ _ _ _ _ _ _ _ _ _ _ _ _ _ _ false n F fa dsb fb logb cb bb 0 ds bs stop 0 gl cl 0 0 bn rv ev (.iface 60 (pt eb)) tv al none gd cdd D w w' hn hF hds (by omega) hbs (by simp) hbs.1 (by omega) ⟨eb, rfl⟩ (fun t ht => by omega) hz hdw (.inl rfl) (Nat.le_refl _) hbel2 fl (by
          rcases hfl with h | ⟨k1, k2, k3, k4, k5, k6, k7⟩
          · exact .inl h
          · exact .inr ⟨k1, k2, k3, k4, k5, k6, fun _ => k7 (by first | rfl | trivial)⟩)
end Go.Proofs.Ybulkdkwu.lawS5597AWhole

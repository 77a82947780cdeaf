import Derived.Test.YbulkdkwuSegY
namespace Go.Proofs.Ybulkdkwu.lawS5597AWhole
open Go.RowKit Go.Deep
set_option linter.unusedVariables false
set_option linter.unusedSimpArgs false

set_option maxRecDepth 100000 in
set_option maxHeartbeats 4000000 in
theorem segX (u0 u1 u3 u5 u6 u7 u8 u9 u10 u11 u12 u13 u15 u16 u17 u19 u20 u21 u23 u24 u27 u28 u36 u37 u38 u41 u42 u43 u44 u45 u46 u47 u48 u49 u50 u51 u52 u53 u54 u55 u56 u57 u58 u59 u60 u61 u62 u63 u64 u65 u66 u67 u68 u69 u70 u71 u72 u73 u74 u75 u76 u77 u78 u79 u80 u81 u82 u83 u84 u85 u86 u87 u88 u89 u90 u91 u92 u93 u94 u95 u96 u97 u98 u99 u100 u101 u102 u103 u104 u105 u106 u107 u108 u109 u110 u111 u112 u113 u114 u115 u116 u117 u118 u119 u120 u121 u122 u123 u124 u125 u126 u127 u128 u129 u130 u131 u132 u133 u134 u135 u136 u137 u138 u139 u140 u141 u142 u143 u144 u145 u146 u147 u148 u149 u150 u151 u152 u153 u154 u155 u156 u157 u158 u159 u160 u161 u162 u163 u164 u165 u166 u167 u168 u169 u170 u171 u172 u173 u174 u175 u176 u177 u178 u179 u180 u181 u182 u183 u184 u185 u186 u187 u188 u189 u190 u191 u192 u193 u194 u195 u196 u197 u198 u199 u200 u201 u202 u203 u204 u205 u206 u207 u208 u209 u210 u211 u212 u213 u214 u215 u216 u217 u218 u219 u220 u221 u222 u223 u224 u225 u226 u227 u228 u229 u230 u231 u232 u233 u234 u235 u236 u237 u238 u239 u240 u241 u242 u243 u244 u245 u246 u247 u248 u249 u250 u251 u252 u253 u254 u255 u256 u257 u258 u259 u260 u261 u262 u263 u264 u265 u266 u267 u268 u269 u270 u271 u272 u273 u274 u275 u276 u277 u278 u279 u280 u281 u282 : Value) (a4 : Bool) (n F : Int) (fa dsb fb logb cb bb k ds stop kd r kb gl cl gw wcap Lt ct : Nat) (bn : Int) (rv ev fv tv : Value) (al wa ta : Option Addr) (gd cd : Nat → Nat) (V D : Nat → Int) (w W : World)
    (hn : 0 ≤ n ∧ n ≤ 18446744073709551615) (hF : -9223372036854775808 ≤ F ∧ F ≤ 9223372036854775807) (hds : 0 < ds ∧ ds ≤ 8) (hkk : k ≤ 65536) (hkd : kd = k * ds) (hkb : kb ≤ Lt) (hr : Lt - kb = r) (hLt : Lt ≤ 65536) (hfv : ∃ g, fv = .iface 60 (pt g)) (z : Zed fa dsb fb logb cb bb n F ds stop kd bn fv al gl cl gd cd V D tv wa gw wcap ta Lt ct W) (hbel : Below w.heap.size w W) (fl : Bool) (hfl : (fl = true ∧ ∃ f : Nat, F = f ∧ f < k ∧ stop = f + 1 ∧ bn = (n + (f : Nat)) % 18446744073709551616 ∧ ev = fv ∧ rv = .slice none 0 0) ∨ (fl = false ∧ ¬ (0 ≤ F ∧ F < k) ∧ stop = k ∧ bn = (n + (k : Nat)) % 18446744073709551616 ∧ ev = .nilIface ∧ Bs W rv r (fun t => D (kb + t)) ∧ (a4 = false → rv = .slice none 0 0))) :
    Code.wp Yba.prog (dropSeq 31 (Yba.f3.body.getD .skip)) (bodyPost Yba.prog Yba.f3 fun e w' => e = .returned (.bool true) ∧ Below w.heap.size w w') ⟨#[u0, u1, .int .u64 n, u3, .bool a4, u5, u6, u7, u8, u9, u10, u11, u12, u13, pt fa, u15, u16, u17, pt dsb, u19, u20, u21, pt fb, u23, u24, pt logb, pt cb, u27, u28, pt bb, rv, ev, .slice ta Lt ct, .int .i64 k, .int .i64 kb, .slice wa kd wcap, u36, u37, u38, .int .i64 stop, .bool fl, u41, u42, u43, u44, u45, u46, u47, u48, u49, u50, u51, u52, u53, u54, u55, u56, u57, u58, u59, u60, u61, u62, u63, u64, u65, u66, u67, u68, u69, u70, u71, u72, u73, u74, u75, u76, u77, u78, u79, u80, u81, u82, u83, u84, u85, u86, u87, u88, u89, u90, u91, u92, u93, u94, u95, u96, u97, u98, u99, u100, u101, u102, u103, u104, u105, u106, u107, u108, u109, u110, u111, u112, u113, u114, u115, u116, u117, u118, u119, u120, u121, u122, u123, u124, u125, u126, u127, u128, u129, u130, u131, u132, u133, u134, u135, u136, u137, u138, u139, u140, u141, u142, u143, u144, u145, u146, u147, u148, u149, u150, u151, u152, u153, u154, u155, u156, u157, u158, u159, u160, u161, u162, u163, u164, u165, u166, u167, u168, u169, u170, u171, u172, u173, u174, u175, u176, u177, u178, u179, u180, u181, u182, u183, u184, u185, u186, u187, u188, u189, u190, u191, u192, u193, u194, u195, u196, u197, u198, u199, u200, u201, u202, u203, u204, u205, u206, u207, u208, u209, u210, u211, u212, u213, u214, u215, u216, u217, u218, u219, u220, u221, u222, u223, u224, u225, u226, u227, u228, u229, u230, u231, u232, u233, u234, u235, u236, u237, u238, u239, u240, u241, u242, u243, u244, u245, u246, u247, u248, u249, u250, u251, u252, u253, u254, u255, u256, u257, u258, u259, u260, u261, u262, u263, u264, u265, u266, u267, u268, u269, u270, u271, u272, u273, u274, u275, u276, u277, u278, u279, u280, u281, u282], []⟩ W := by
  have hbel0 := hbel
  obtain ⟨hn1, hn2⟩ := hn
  obtain ⟨hF1, hF2⟩ := hF
  obtain ⟨hd1, hd2⟩ := hds
  have hstop : stop ≤ k := by rcases hfl with ⟨_, f, _, h1, h2, _⟩ | ⟨_, _, h2, _⟩ <;> omega
  have hstop2 : stop ≤ 65536 := by omega
  have HZ := hid_mk z
  have HB := hid_mk hbel
  have HKD := hid_mk hkd
  have HC := hid_mk hfl
  have HR := hid_mk (And.intro hr (And.intro hfv (And.intro hkb hLt)))
  clear z hbel hkd hfl hr hfv hbel0 hkb hLt
  conv => arg 2; whnf
  go_upto_block 4 with fail
  go_cut [] (fun wx => Chg [] W wx)
  case first => as_aux_lemma =>
    go_wp2_with fail
    go_loopg [41] stop (fun gk s41 wr => ∃ i : Nat, i + gk = stop ∧ s41 = .int .i64 i ∧ Chg [] W wr)
    case atStart => exact ⟨0, by omega, rfl, Chg.refl [] W⟩
    case round =>
      obtain ⟨i, hgk, rfl, hch⟩ := hrel
      by_cases hi : i < stop
      · have z := HZ.out.chg hch
        rcases z.hal with h | h
        · omega
        subst h
        have hid : i * ds + ds ≤ kd := by rw [HKD.out, ← Nat.succ_mul]; exact Nat.mul_le_mul_right _ (by omega)
        have hkd5 : kd ≤ 600000 := by rw [HKD.out]; have := Nat.mul_le_mul_left k hd2; omega
        rcases z.hwa with h | h
        · omega
        subst h
        have y1 := z.zlog
        have y2 := z.ix i hi
        have y3 := z.d i hi
        have y4 := z.zds
        have hwc := z.hwc
        have he : ∀ W', Chg [] wr W' → Calls Yba.prog 10 #[.slice (some ⟨gd i, 0, none⟩) ds (cd i), .slice (some ⟨gw, i * ds, none⟩) ds (wcap - i * ds)] W' fun e w' => e = .returned (.bool true) ∧ w' = W' := fun W' h' =>
          equal_bs (D := fun j => V (i * ds + j)) ⟨_, _, rfl, .inr ⟨gd i, 0, rfl, fun j hj => by rw [Nat.zero_add]; exact (z.chg h').ent i hi j hj⟩⟩ ⟨_, _, rfl, .inr ⟨gw, i * ds, rfl, fun j hj => (z.chg h').want _ (by omega)⟩⟩
        have hix : IntKind.u64.wrap (n + (i : Int)) = (n + (i : Int)) % 18446744073709551616 := by rw [IntKind.wrap_u64]
        have hcast : ((i * ds : Nat) : Int) = (i : Int) * (ds : Int) := by simp
        have hcast2 : ((i * ds + ds : Nat) : Int) = ((i : Int) + 1) * (ds : Int) := by rw [← Nat.succ_mul]; simp
        have hm1 : IntKind.i64.wrap ((i : Int) * (ds : Int)) = ((i * ds : Nat) : Int) := by rw [IntKind.wrap_i64, ← hcast]; omega
        have hm2 : IntKind.i64.wrap (((i : Int) + 1) * (ds : Int)) = ((i * ds + ds : Nat) : Int) := by rw [IntKind.wrap_i64, ← hcast2]; omega
        have hm3 : IntKind.i64.wrap ((i : Int) + 1) = (i : Int) + 1 := by rw [IntKind.wrap_i64]; omega
        have hii : (i : Int) < (stop : Int) := by omega
        have HCA := hid_mk (And.intro hcast hcast2)
        clear z hcast hcast2
        generalize hID : i * ds = id at *
        clear hID
        have hw1 : (id : Int) ≤ ((id + ds : Nat) : Int) := by omega
        have hw2 : ((id + ds : Nat) : Int) ≤ (wcap : Int) := by omega
        have hidd : id + ds - id = ds := by omega
        have hI2 : ((id + ds : Nat) : Int).toNat = id + ds := by omega
        go_upto_region 51 with fail
        go_quiet ((go_at_call 10; go_must (exact Calls.quiet_of_same (he _ ((Chg.refl [] wr).drewN _)))))
        have hch2 : Chg [] W (wr.drewN nq) := hch.drewN nq
        clear y1 y2 y3 y4 he hm1 hm2 hch
        go_wp2_with fail
        go_roundg (gk - 1)
        case rel => exact ⟨i + 1, by omega, by go_num, hch2⟩
        case measure => omega
      · obtain rfl : i = stop := by omega
        clear hi hgk
        go_wp2_with fail
        go_meet
        case rel => exact hch
  case rest => as_aux_lemma =>
    have z := HZ.out.chg hcut
    apply_assumption
    exact segY _ _ _ _ _ _ _ _ _ _ _ _ _ _ _ _ _ _ _ _ _ _ _ _ _ _ _ _ _ _ _ _ _ _ _ _ _ _ _ _ _ _ _ _ _ _ _ _ _ _ _ _ _ _ _ _ _ _ _ _ _ _ _ _ _ _ _ _ _ _ _ _ _ _ _ _ _ _ _ _ _ _ _ _ _ _ _ _ _ _ _ _ _ _ _ _ _ _ _ _ _ _ _ _ _ _ _ _ _ _ _ _ _ _ _ _ _ _ _ _ _ _ _ _ _ _ _ _ _ _ _ _ _ _ _ _ _ _ _ _ _ _ _ _ _ _ _ _ _ _ _ _ _ _ _ _ _ _ _ _ _ _ _ _ _ _ _ _ _ _ _ _ _ _ _ _ _ _ _ _ _ _ _ _ _ _ _ _ _ _ _ _ _ _ _ _ _ _ _ _ _ _ _ _ _ _ _ _ _ _ _ _ _ _ _ _ _ _ _ _ _ _ _ _ _ _ _ _ _ _ _ _ _ _ _ _ _ _ _ _ _ _ _ _ _ _ _ _ _ _ _ _ _ _ _ _ _ _ _ _ _ _ _ _ _ _ _  a4 n F fa dsb fb logb cb bb k ds stop kd r kb gl cl gw wcap Lt ct bn rv ev fv tv al wa ta gd cd V D w wc ⟨hn1, hn2⟩ ⟨hF1, hF2⟩ ⟨hd1, hd2⟩ hkk HKD.out HR.out.2.2.1 HR.out.1 HR.out.2.2.2 HR.out.2.1 z (hcut.below HB.out HB.out.size (by simp)) fl (by
      rcases HC.out with ⟨h1, h2⟩ | ⟨h1, h2, h3, h4, h5, h6, h7⟩
      · exact .inl ⟨h1, h2⟩
      · exact .inr ⟨h1, h2, h3, h4, h5, h6.chg hcut, h7⟩)
end Go.Proofs.Ybulkdkwu.lawS5597AWhole

import Derived.Test.YbulkdkwuZed
namespace Go.Proofs.Ybulkdkwu.lawS5597AWhole
open Go.RowKit Go.Deep
set_option linter.unusedVariables false
set_option linter.unusedSimpArgs false

set_option maxRecDepth 100000 in
set_option maxHeartbeats 4000000 in
theorem segY (u0 u1 u3 u5 u6 u7 u8 u9 u10 u11 u12 u13 u15 u16 u17 u19 u20 u21 u23 u24 u27 u28 u36 u37 u38 u41 u42 u43 u44 u45 u46 u47 u48 u49 u50 u51 u52 u53 u54 u55 u56 u57 u58 u59 u60 u61 u62 u63 u64 u65 u66 u67 u68 u69 u70 u71 u72 u73 u74 u75 u76 u77 u78 u79 u80 u81 u82 u83 u84 u85 u86 u87 u88 u89 u90 u91 u92 u93 u94 u95 u96 u97 u98 u99 u100 u101 u102 u103 u104 u105 u106 u107 u108 u109 u110 u111 u112 u113 u114 u115 u116 u117 u118 u119 u120 u121 u122 u123 u124 u125 u126 u127 u128 u129 u130 u131 u132 u133 u134 u135 u136 u137 u138 u139 u140 u141 u142 u143 u144 u145 u146 u147 u148 u149 u150 u151 u152 u153 u154 u155 u156 u157 u158 u159 u160 u161 u162 u163 u164 u165 u166 u167 u168 u169 u170 u171 u172 u173 u174 u175 u176 u177 u178 u179 u180 u181 u182 u183 u184 u185 u186 u187 u188 u189 u190 u191 u192 u193 u194 u195 u196 u197 u198 u199 u200 u201 u202 u203 u204 u205 u206 u207 u208 u209 u210 u211 u212 u213 u214 u215 u216 u217 u218 u219 u220 u221 u222 u223 u224 u225 u226 u227 u228 u229 u230 u231 u232 u233 u234 u235 u236 u237 u238 u239 u240 u241 u242 u243 u244 u245 u246 u247 u248 u249 u250 u251 u252 u253 u254 u255 u256 u257 u258 u259 u260 u261 u262 u263 u264 u265 u266 u267 u268 u269 u270 u271 u272 u273 u274 u275 u276 u277 u278 u279 u280 u281 u282 : Value) (a4 : Bool) (n F : Int) (fa dsb fb logb cb bb k ds stop kd r kb gl cl gw wcap Lt ct : Nat) (bn : Int) (rv ev fv tv : Value) (al wa ta : Option Addr) (gd cd : Nat → Nat) (V D : Nat → Int) (w W : World)
    (hn : 0 ≤ n ∧ n ≤ 18446744073709551615) (hF : -9223372036854775808 ≤ F ∧ F ≤ 9223372036854775807) (hds : 0 < ds ∧ ds ≤ 8) (hkk : k ≤ 65536) (hkd : kd = k * ds) (hkb : kb ≤ Lt) (hr : Lt - kb = r) (hLt : Lt ≤ 65536) (hfv : ∃ g, fv = .iface 60 (pt g)) (z : Zed fa dsb fb logb cb bb n F ds stop kd bn fv al gl cl gd cd V D tv wa gw wcap ta Lt ct W) (hbel : Below w.heap.size w W) (fl : Bool) (hfl : (fl = true ∧ ∃ f : Nat, F = f ∧ f < k ∧ stop = f + 1 ∧ bn = (n + (f : Nat)) % 18446744073709551616 ∧ ev = fv ∧ rv = .slice none 0 0) ∨ (fl = false ∧ ¬ (0 ≤ F ∧ F < k) ∧ stop = k ∧ bn = (n + (k : Nat)) % 18446744073709551616 ∧ ev = .nilIface ∧ Bs W rv r (fun t => D (kb + t)) ∧ (a4 = false → rv = .slice none 0 0))) :
    Code.wp Yba.prog (dropSeq 32 (Yba.f3.body.getD .skip)) (bodyPost Yba.prog Yba.f3 fun e w' => e = .returned (.bool true) ∧ Below w.heap.size w w') ⟨#[u0, u1, .int .u64 n, u3, .bool a4, u5, u6, u7, u8, u9, u10, u11, u12, u13, pt fa, u15, u16, u17, pt dsb, u19, u20, u21, pt fb, u23, u24, pt logb, pt cb, u27, u28, pt bb, rv, ev, .slice ta Lt ct, .int .i64 k, .int .i64 kb, .slice wa kd wcap, u36, u37, u38, .int .i64 stop, .bool fl, u41, u42, u43, u44, u45, u46, u47, u48, u49, u50, u51, u52, u53, u54, u55, u56, u57, u58, u59, u60, u61, u62, u63, u64, u65, u66, u67, u68, u69, u70, u71, u72, u73, u74, u75, u76, u77, u78, u79, u80, u81, u82, u83, u84, u85, u86, u87, u88, u89, u90, u91, u92, u93, u94, u95, u96, u97, u98, u99, u100, u101, u102, u103, u104, u105, u106, u107, u108, u109, u110, u111, u112, u113, u114, u115, u116, u117, u118, u119, u120, u121, u122, u123, u124, u125, u126, u127, u128, u129, u130, u131, u132, u133, u134, u135, u136, u137, u138, u139, u140, u141, u142, u143, u144, u145, u146, u147, u148, u149, u150, u151, u152, u153, u154, u155, u156, u157, u158, u159, u160, u161, u162, u163, u164, u165, u166, u167, u168, u169, u170, u171, u172, u173, u174, u175, u176, u177, u178, u179, u180, u181, u182, u183, u184, u185, u186, u187, u188, u189, u190, u191, u192, u193, u194, u195, u196, u197, u198, u199, u200, u201, u202, u203, u204, u205, u206, u207, u208, u209, u210, u211, u212, u213, u214, u215, u216, u217, u218, u219, u220, u221, u222, u223, u224, u225, u226, u227, u228, u229, u230, u231, u232, u233, u234, u235, u236, u237, u238, u239, u240, u241, u242, u243, u244, u245, u246, u247, u248, u249, u250, u251, u252, u253, u254, u255, u256, u257, u258, u259, u260, u261, u262, u263, u264, u265, u266, u267, u268, u269, u270, u271, u272, u273, u274, u275, u276, u277, u278, u279, u280, u281, u282], []⟩ W := by
  obtain ⟨hn1, hn2⟩ := hn
  obtain ⟨hF1, hF2⟩ := hF
  obtain ⟨hd1, hd2⟩ := hds
  have hkd5 : kd ≤ 600000 := by rw [hkd]; have := Nat.mul_le_mul_left k hd2; omega
  have y1 := z.htv
  have y2 := z.hbn
  have y3 := z.zfa
  have y4 := z.zfb
  have he1 : Calls Yba.prog 10 #[tv, .slice wa kd wcap] W fun e w' => e = .returned (.bool true) ∧ w' = W := equal_bs z.tb ⟨wa, wcap, rfl, by
    rcases z.hwa with h | h
    · exact .inl h
    · exact .inr ⟨gw, 0, h, fun i hi => by rw [Nat.zero_add]; exact z.want i hi⟩⟩
  have hnl := fun (w : World) (a : Option Addr) (n c : Nat) => Lib.run_eql_slice_nil (P := Yba.prog) w 23 5 a n c 0 0 Yba.underlying23
  have HZ := hid_mk z
  have HB := hid_mk hbel
  have HKD := hid_mk hkd
  clear z hbel hkd
  conv => arg 2; whnf
  rcases hfl with ⟨rfl, f, rfl, hfk, hsk, rfl, rfl, rfl⟩ | ⟨rfl, hnf, hsk, rfl, rfl, hbs, ha4⟩
  · have HS := hid_mk hsk
    obtain ⟨g, rfl⟩ := hfv
    clear hsk
    have hix : IntKind.u64.wrap (n + (f : Int)) = (n + (f : Int)) % 18446744073709551616 := by rw [IntKind.wrap_u64]
    have hif := iface_same g
    go_upto_region 56 with (go_at_call 10; refine he1.mono ?_; rintro e w' ⟨rfl, rfl⟩)
    go_quiet (fail)
    go_wp2_with fail
    go_ret
    exact ⟨rfl, ⟨HB.out.1, HB.out.2, HB.out.3, HB.out.4, HB.out.5⟩⟩
  · have HS := hid_mk hsk
    clear hsk
    have hix : IntKind.u64.wrap (n + (k : Int)) = (n + (k : Int)) % 18446744073709551616 := by rw [IntKind.wrap_u64]
    have he2 : ∀ p, (r = 0 ∨ p = ta.map (fun x => x.add kb)) → ∀ c, Calls Yba.prog 10 #[rv, .slice p r c] W fun e w' => e = .returned (.bool true) ∧ w' = W := fun p hp c => equal_bs hbs ⟨p, c, rfl, by
      rcases Nat.eq_zero_or_pos r with h0 | h0
      · exact .inl h0
      · rcases hp with h | h
        · omega
        · rcases HZ.out.rest with h2 | ⟨b, o, h2, h3⟩
          · omega
          · subst h2
            exact .inr ⟨b, o + kb, by rw [h]; simp [Go.WideShapes.add_plain], fun i hi => by rw [Nat.add_assoc]; exact h3 _ (by omega)⟩⟩
    have hct := HZ.out.hct
    have HH := hid_mk (And.intro hnf ha4)
    have HE2 := hid_mk he2
    have i1 : (kb : Int) ≤ (Lt : Int) := by omega
    clear hnf hbs ha4 he2
    cases a4 with
    | true => as_aux_lemma =>
      go_upto_region 61 with (go_at_call 10; refine he1.mono ?_; rintro e w' ⟨rfl, rfl⟩)
      by_cases hck : ct = kb
      · have HCK := hid_mk hck
        have e1 := HE2.out ta (.inl (by omega)) (ct - kb)
        have hck2 : (ct = kb) = True := by simp [hck]
        clear hck
        go_wp2_with (go_at_call 10; refine e1.mono ?_; rintro e w' ⟨rfl, rfl⟩)
        go_ret
        exact ⟨rfl, HB.out⟩
      · have e1 := HE2.out _ (.inr rfl) (ct - kb)
        go_wp2_with (go_at_call 10; refine e1.mono ?_; rintro e w' ⟨rfl, rfl⟩)
        go_ret
        exact ⟨rfl, HB.out⟩
    | false => as_aux_lemma =>
      obtain rfl := HH.out.2 rfl
      have hnn : ∀ W, (binOp .neq 23 (.slice none 0 0) (.slice none 0 0)).run Yba.prog W = .ok (.bool false) W := fun W => by
        have h : ∀ d : Nat, (Op.equalIn (d + 1) 23 (.slice none 0 0) (.slice none 0 0)).run Yba.prog W = .ok true W := fun d => by
          simp [Op.equalIn, run_underlying Yba.underlying23]
        simp only [binOp]
        simp [Op.equal, Op.maxDepth, h 9999]
      go_upto_region 61 with (go_at_call 10; refine he1.mono ?_; rintro e w' ⟨rfl, rfl⟩)
      by_cases hck : ct = kb
      · have HCK := hid_mk hck
        have e1 := HE2.out ta (.inl (by omega)) (ct - kb)
        have hck2 : (ct = kb) = True := by simp [hck]
        clear hck
        go_wp2_with (go_at_call 10; refine e1.mono ?_; rintro e w' ⟨rfl, rfl⟩)
        go_ret
        exact ⟨rfl, HB.out⟩
      · have e1 := HE2.out _ (.inr rfl) (ct - kb)
        go_wp2_with (go_at_call 10; refine e1.mono ?_; rintro e w' ⟨rfl, rfl⟩)
        go_ret
        exact ⟨rfl, HB.out⟩
end Go.Proofs.Ybulkdkwu.lawS5597AWhole

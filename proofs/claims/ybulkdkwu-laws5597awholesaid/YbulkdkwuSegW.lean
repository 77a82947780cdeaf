import Derived.Test.YbulkdkwuSegZ
namespace Go.Proofs.Ybulkdkwu.lawS5597AWhole
open Go.RowKit Go.Deep
set_option linter.unusedVariables false
set_option linter.unusedSimpArgs false

set_option maxRecDepth 100000 in
set_option maxHeartbeats 4000000 in
theorem segW (u0 u1 u3 u5 u6 u7 u8 u9 u10 u11 u12 u13 u15 u16 u19 u20 u21 u23 u24 u27 u28 u33 u34 u35 u36 u37 u38 u39 u40 u41 u42 u43 u44 u45 u46 u47 u48 u49 u50 u51 u52 u53 u54 u55 u56 u57 u58 u59 u60 u61 u62 u63 u64 u65 u66 u67 u68 u69 u70 u71 u72 u73 u74 u75 u76 u77 u78 u79 u80 u81 u82 u83 u84 u85 u86 u87 u88 u89 u90 u91 u92 u93 u94 u95 u96 u97 u98 u99 u100 u101 u102 u103 u104 u105 u106 u107 u108 u109 u110 u111 u112 u113 u114 u115 u116 u117 u118 u119 u120 u121 u122 u123 u124 u125 u126 u127 u128 u129 u130 u131 u132 u133 u134 u135 u136 u137 u138 u139 u140 u141 u142 u143 u144 u145 u146 u147 u148 u149 u150 u151 u152 u153 u154 u155 u156 u157 u158 u159 u160 u161 u162 u163 u164 u165 u166 u167 u168 u169 u170 u171 u172 u173 u174 u175 u176 u177 u178 u179 u180 u181 u182 u183 u184 u185 u186 u187 u188 u189 u190 u191 u192 u193 u194 u195 u196 u197 u198 u199 u200 u201 u202 u203 u204 u205 u206 u207 u208 u209 u210 u211 u212 u213 u214 u215 u216 u217 u218 u219 u220 u221 u222 u223 u224 u225 u226 u227 u228 u229 u230 u231 u232 u233 u234 u235 u236 u237 u238 u239 u240 u241 u242 u243 u244 u245 u246 u247 u248 u249 u250 u251 u252 u253 u254 u255 u256 u257 u258 u259 u260 u261 u262 u263 u264 u265 u266 u267 u268 u269 u270 u271 u272 u273 u274 u275 u276 u277 u278 u279 u280 u281 u282 : Value) (a4 : Bool) (n F : Int) (fa dsb fb logb cb bb k ds bs stop r gl cl Lt ct : Nat) (bn : Int) (rv ev fv tv : Value) (al ta : Option Addr) (gd cd : Nat → Nat) (D : Nat → Int) (w W : World)
    (hn : 0 ≤ n ∧ n ≤ 18446744073709551615) (hF : -9223372036854775808 ≤ F ∧ F ≤ 9223372036854775807) (hds : 0 < ds ∧ ds ≤ 8) (hkk : k ≤ 65536) (hbs : 0 < bs ∧ bs ≤ 16) (hLk : Lt = k * bs + r) (hr : r < bs) (hLt : Lt ≤ 65536) (hfv : ∃ g, fv = .iface 60 (pt g)) (hD : ∀ t, t < Lt → 0 ≤ D t ∧ D t ≤ 255)
    (hz : ∀ W' wa gw wcap, Chg [] W W' → (k * ds = 0 ∨ wa = some ⟨gw, 0, none⟩) → (∀ q, q < k * ds → W'.cell? ⟨gw, q, none⟩ = some (.int .u8 (dig n ds bs D q))) → k * ds ≤ wcap → Zed fa dsb fb logb cb bb n F ds stop (k * ds) bn fv al gl cl gd cd (dig n ds bs D) D tv wa gw wcap ta Lt ct W')
    (hzd : W.cell? ⟨dsb, 0, none⟩ = some (.int .i64 ds)) (hrest : Lt = 0 ∨ ∃ b o, ta = some ⟨b, o, none⟩ ∧ ∀ t, t < Lt → W.cell? ⟨b, o + t, none⟩ = some (.int .u8 (D t))) (hct : Lt ≤ ct) (hbel : Below w.heap.size w W)
    (fl : Bool) (hfl : (fl = true ∧ ∃ f : Nat, F = f ∧ f < k ∧ stop = f + 1 ∧ bn = (n + (f : Nat)) % 18446744073709551616 ∧ ev = fv ∧ rv = .slice none 0 0) ∨ (fl = false ∧ ¬ (0 ≤ F ∧ F < k) ∧ stop = k ∧ bn = (n + (k : Nat)) % 18446744073709551616 ∧ ev = .nilIface ∧ Bs W rv r (fun t => D (k * bs + t)) ∧ (a4 = false → rv = .slice none 0 0))) :
    Code.wp Yba.prog (dropSeq 23 (Yba.f3.body.getD .skip)) (bodyPost Yba.prog Yba.f3 fun e w' => e = .returned (.bool true) ∧ Below w.heap.size w w') ⟨#[u0, u1, .int .u64 n, u3, .bool a4, u5, u6, u7, u8, u9, u10, u11, u12, u13, pt fa, u15, u16, .int .i64 bs, pt dsb, u19, u20, u21, pt fb, u23, u24, pt logb, pt cb, u27, u28, pt bb, rv, ev, .slice ta Lt ct, u33, u34, u35, u36, u37, u38, u39, u40, u41, u42, u43, u44, u45, u46, u47, u48, u49, u50, u51, u52, u53, u54, u55, u56, u57, u58, u59, u60, u61, u62, u63, u64, u65, u66, u67, u68, u69, u70, u71, u72, u73, u74, u75, u76, u77, u78, u79, u80, u81, u82, u83, u84, u85, u86, u87, u88, u89, u90, u91, u92, u93, u94, u95, u96, u97, u98, u99, u100, u101, u102, u103, u104, u105, u106, u107, u108, u109, u110, u111, u112, u113, u114, u115, u116, u117, u118, u119, u120, u121, u122, u123, u124, u125, u126, u127, u128, u129, u130, u131, u132, u133, u134, u135, u136, u137, u138, u139, u140, u141, u142, u143, u144, u145, u146, u147, u148, u149, u150, u151, u152, u153, u154, u155, u156, u157, u158, u159, u160, u161, u162, u163, u164, u165, u166, u167, u168, u169, u170, u171, u172, u173, u174, u175, u176, u177, u178, u179, u180, u181, u182, u183, u184, u185, u186, u187, u188, u189, u190, u191, u192, u193, u194, u195, u196, u197, u198, u199, u200, u201, u202, u203, u204, u205, u206, u207, u208, u209, u210, u211, u212, u213, u214, u215, u216, u217, u218, u219, u220, u221, u222, u223, u224, u225, u226, u227, u228, u229, u230, u231, u232, u233, u234, u235, u236, u237, u238, u239, u240, u241, u242, u243, u244, u245, u246, u247, u248, u249, u250, u251, u252, u253, u254, u255, u256, u257, u258, u259, u260, u261, u262, u263, u264, u265, u266, u267, u268, u269, u270, u271, u272, u273, u274, u275, u276, u277, u278, u279, u280, u281, u282], []⟩ W := by
  obtain ⟨hn1, hn2⟩ := hn
  obtain ⟨hF1, hF2⟩ := hF
  obtain ⟨hd1, hd2⟩ := hds
  obtain ⟨hb1, hb2⟩ := hbs
  obtain ⟨i0, ii, iz0, iz1, iz2⟩ := info_parts info5
  have hkd5 : k * ds ≤ 600000 := by have := Nat.mul_le_mul_left k hd2; omega
  have hkb5 : k * bs ≤ 65536 := by omega
  obtain ⟨w1, hrun, hown1, hgr⟩ := run_make_own (P := Yba.prog) W W.heap.size 23 5 i0 _ 1 Yba.underlying23 ii iz0 iz1 .i64 .i64 (k * ds) (by rw [iz2]; omega) (by unfold maxLen; omega) (Nat.le_refl _)
  have hch1 : Chg [] W w1 := (Chg.refl [] W).grown hgr (by simp)
  have hdiv : (Lt : Int) / (bs : Int) = (k : Int) := by
    have : (Lt : Int) / (bs : Int) = ((Lt / bs : Nat) : Int) := by simp
    rw [this, hLk, Nat.mul_comm, Nat.mul_add_div hb1, Nat.div_eq_of_lt hr, Nat.add_zero]
  have hmul : (k : Int) * (bs : Int) = ((k * bs : Nat) : Int) := by simp
  have hmul2 : (k : Int) * (ds : Int) = ((k * ds : Nat) : Int) := by simp
  have HZ := hid_mk hz
  have HB := hid_mk hbel
  have HC := hid_mk hfl
  have HM := hid_mk (And.intro hown1 hch1)
  have HL := hid_mk (And.intro hLk (And.intro hr (And.intro hLt (And.intro hfv (And.intro hct hrest)))))
  have HN := hid_mk (And.intro hn1 (And.intro hn2 (And.intro hF1 (And.intro hF2 (And.intro hd1 hd2)))))
  have HD := hid_mk hD
  have hkb7 : k * bs ≤ Lt := by omega
  have hLt7 := hLt
  clear hz hbel hfl hgr hown1 hch1 hLk hr hLt hfv hct hrest hD
  conv => arg 2; whnf
  generalize hKB : k * bs = kb at *
  generalize hKD : k * ds = kd at *
  have HK := hid_mk (And.intro hKB hKD)
  clear hKB hKD
  go_upto_block 0 with fail
  obtain ⟨hown1, hch1⟩ := HM.out
  clear hrun hdiv hmul hmul2 HM
  go_cut [35] (fun s35 wx => ∃ (wa : Option Addr) (wcap : Nat), s35 = .slice wa kd wcap ∧ wx.ownsRow W.heap.size 5 1 (.slice wa kd wcap) kd (bl (dig n ds bs D) kd) ∧ Chg [] W wx)
  case first => as_aux_lemma =>
    go_wp2_with fail
    go_loopg [35, 36] k (fun gk s35 s36 wr => ∃ (i : Nat) (wa : Option Addr) (wcap : Nat), i + gk = k ∧ s36 = .int .i64 i ∧ s35 = .slice wa (i * ds) wcap ∧ wr.ownsRow W.heap.size 5 1 (.slice wa (i * ds) wcap) (i * ds) (bl (dig n ds bs D) (i * ds)) ∧ Chg [] W wr)
    case atStart => exact ⟨0, some ⟨W.heap.size, 0, none⟩, kd, by omega, rfl, by simp, by simpa [bl] using hown1, hch1⟩
    case round =>
      clear hown1 hch1
      obtain ⟨i, wa, wcap, hgk, rfl, rfl, hown, hch⟩ := hrel
      by_cases hi : i < k
      · obtain ⟨hLk, hr, hLt, hfv, hct, hrest⟩ := HL.out
        have hib : i * bs + bs ≤ kb := by rw [← HK.out.1, ← Nat.succ_mul]; exact Nat.mul_le_mul_right _ hi
        have hid : i * ds + ds ≤ kd := by rw [← HK.out.2, ← Nat.succ_mul]; exact Nat.mul_le_mul_right _ hi
        rcases hrest with hrest | ⟨b, o, rfl, hcells⟩
        · omega
        have hq1 : (i : Int) * (bs : Int) = ((i * bs : Nat) : Int) := by simp
        have hq2 : ((i : Int) + 1) * (bs : Int) = ((i * bs + bs : Nat) : Int) := by rw [← Nat.succ_mul]; simp
        have hHC : Hid (∀ (j : Nat) W', j < ds → Chg [] W W' → Calls Yba.prog 7 #[.int .u64 ((n + (i : Nat)) % 18446744073709551616), .int .i64 j, .slice (some ⟨b, o + i * bs, none⟩) bs (ct - i * bs)] W' fun e w' => e = .returned (.int .u8 (dig n ds bs D (i * ds + j))) ∧ w' = W') := fun j W' hj h' => by
          have h1 := digest_walk ((n + (i : Nat)) % 18446744073709551616) j b (o + i * bs) bs (ct - i * bs) (fun t => D (i * bs + t)) W' (by omega) (by omega) hb2 (fun t ht => ⟨by rw [Nat.add_assoc]; exact h'.cell (hcells _ (by omega)) (by simp), HD.out _ (by omega)⟩)
          rw [dig_at n bs D i j hj]
          exact h1
        have hix : IntKind.u64.wrap (n + (i : Int)) = (n + (i : Int)) % 18446744073709551616 := by rw [IntKind.wrap_u64]
        have hne : ¬ (ct = i * bs) := by omega
        have hw1 : ((i * bs : Nat) : Int) ≤ ((i * bs + bs : Nat) : Int) := by omega
        have hw2 : ((i * bs + bs : Nat) : Int) ≤ (ct : Int) := by omega
        have hw3 : i * bs + bs - i * bs = bs := by omega
        clear hLk hr hLt hfv hct hcells HD
        generalize hIB : i * bs = ib at *
        generalize hID : i * ds = id at *
        have HI := hid_mk (And.intro hIB hID)
        clear hIB hID
        have hii : (i : Int) < (k : Int) := by omega
        have hgo : 0 < gk := by omega
        generalize hgg : gk = GK at *
        have HGK : Hid (i + GK = k ∧ 0 < GK) := ⟨hgk, hgo⟩
        clear hgg hgk hgo
        go_upto_block 2 with fail
        rw [hw3]
        clear hq1 hq2 hw1 hw2 hw3 hne
        go_wp2_with fail
        go_loopg [35, 38] ds (fun gk s35 s38 wr => ∃ (j : Nat) (wa : Option Addr) (wcap : Nat), j + gk = ds ∧ s38 = .int .i64 j ∧ s35 = .slice wa (id + j) wcap ∧ wr.ownsRow W.heap.size 5 1 (.slice wa (id + j) wcap) (id + j) (bl (dig n ds bs D) (id + j)) ∧ Chg [] W wr)
        case atStart => exact ⟨0, wa, wcap, by omega, rfl, rfl, hown, hch⟩
        case round =>
          clear hown hch
          obtain ⟨j, wa, wcap, hgk, rfl, rfl, hown, hch⟩ := hrel
          have hdw := hch.cell hzd (by simp)
          by_cases hj : j < ds
          · have hji : (j : Int) < (ds : Int) := by omega
            have hc7 := hHC.out j wr hj hch
            have hsz := hch.size
            have hnb : Hid (∀ o, (wr.alloc o).heap[wr.heap.size]? = some o) := fun o => heap_alloc_new wr o
            have HO3 := hid_mk hown
            clear hown
            go_wp2_with (first | (go_at_call 7; refine hc7.mono ?_; rintro e w' ⟨rfl, rfl⟩) | (at_builtin; go_must (refine wpList_append_lies _ rfl (.tmp 171) (.tmp 179) 23 rfl W.heap.size 5 i0 _ 1 1 Yba.underlying23 ii iz0 iz1 iz2 rfl (by decide) _ (id + j) (bl (dig n ds bs D) (id + j)) rfl (by exact HO3.out.alloc _) ⟨_, 0, none⟩ 1 1 [.int .u8 (dig n ds bs D (id + j))] rfl rfl (World.news_of_block (by exact hnb.out _)) (by intro u hu; simp at hu; subst hu; rfl) (by decide) (by unfold maxLen; omega) (by omega) (by simp; omega) _ rfl ?_)))
            intro g' c2 w2 hown2 hgrow2 hat2 hlt2
            rw [← bl_succ] at hown2
            have hch2 : Chg [] W w2 := hch.step (L' := (Value.slice wa (id + j) wcap).ownBlock.toList) (((Chg.refl _ w').alloc _).grown hgrow2 (by intro b hb _; rw [hb]; simp)) (by
              intro x hx hlt
              rw [Option.mem_toList] at hx
              have := (HO3.out.lt x hx).1
              omega)
            clear hgrow2 hat2 hlt2 hch hc7 hnb HO3 hdw
            go_wp2_with fail
            go_roundg (gk - 1)
            case rel => exact ⟨j + 1, _, c2, by omega, by go_num, rfl, hown2, hch2⟩
            case measure => omega
          · obtain rfl : j = ds := by omega
            clear hj hgk
            go_wp2_with fail
            go_roundg (GK - 1)
            case rel =>
              have e4 : (i + 1) * j = id + j := by rw [Nat.succ_mul, HI.out.2]
              exact ⟨i + 1, wa, wcap, by have := HGK.out; omega, by go_num, by rw [e4], by rw [e4]; exact hown, hch⟩
            case measure => have := HGK.out; omega
      · obtain rfl : i = k := by omega
        clear hi hgk
        go_wp2_with fail
        go_meet
        case rel => exact ⟨wa, wcap, by rw [HK.out.2], by rw [← HK.out.2]; exact hown, hch⟩
  case rest => as_aux_lemma =>
    obtain ⟨wa, wcap, rfl, hown, hch⟩ := hcut
    obtain ⟨hLk, hr, hLt, hfv, hct, hrest⟩ := HL.out
    obtain ⟨h1, h2, h3, h4, h5, h6⟩ := HN.out
    obtain ⟨e1, e2⟩ := HK.out
    obtain ⟨gw, hwa, hcap, hcells⟩ : ∃ gw, (kd = 0 ∨ wa = some ⟨gw, 0, none⟩) ∧ kd ≤ wcap ∧ ∀ q, q < kd → wc.cell? ⟨gw, q, none⟩ = some (.int .u8 (dig n ds bs D q)) := by
      rcases hown.2 with ⟨g1, g2⟩ | ⟨g1, c1, cur, g2, _, _, g3, _⟩
      · exact ⟨0, .inl g2, by omega, fun q hq => by omega⟩
      · injection g2 with g2 _ g4
        subst g2; subst g4
        exact ⟨g1, .inr rfl, g3, fun q hq => by rw [hown.cellAt q (by omega)]; exact bl_get _ hq⟩
    apply_assumption
    refine segZ _ _ _ _ _ _ _ _ _ _ _ _ _ _ _ _ _ _ _ _ _ _ _ _ _ _ _ _ _ _ _ _ _ _ _ _ _ _ _ _ _ _ _ _ _ _ _ _ _ _ _ _ _ _ _ _ _ _ _ _ _ _ _ _ _ _ _ _ _ _ _ _ _ _ _ _ _ _ _ _ _ _ _ _ _ _ _ _ _ _ _ _ _ _ _ _ _ _ _ _ _ _ _ _ _ _ _ _ _ _ _ _ _ _ _ _ _ _ _ _ _ _ _ _ _ _ _ _ _ _ _ _ _ _ _ _ _ _ _ _ _ _ _ _ _ _ _ _ _ _ _ _ _ _ _ _ _ _ _ _ _ _ _ _ _ _ _ _ _ _ _ _ _ _ _ _ _ _ _ _ _ _ _ _ _ _ _ _ _ _ _ _ _ _ _ _ _ _ _ _ _ _ _ _ _ _ _ _ _ _ _ _ _ _ _ _ _ _ _ _ _ _ _ _ _ _ _ _ _ _ _ _ _ _ _ _ _ _ _ _ _ _ _ _ _ _ _ _ _ _ _ _ _ _ _ _ _ _ _ _ _ _ _ _ _ _ _ _ _ a4 n F fa dsb fb logb cb bb k ds stop kd r kb gl cl gw wcap Lt ct bn rv ev fv tv al wa ta gd cd (dig n ds bs D) D w wc ⟨h1, h2⟩ ⟨h3, h4⟩ ⟨h5, h6⟩ hkk e2.symm (by omega) (by omega) hLt hfv ?_ (hch.below HB.out HB.out.size (by simp)) fl ?_
    · have := HZ.out wc wa gw wcap hch
      exact this hwa hcells hcap
    · rcases HC.out with ⟨k1, k2⟩ | ⟨k1, k2, k3, k4, k5, k6, k7⟩
      · exact .inl ⟨k1, k2⟩
      · exact .inr ⟨k1, k2, k3, k4, k5, k6.chg hch, k7⟩
end Go.Proofs.Ybulkdkwu.lawS5597AWhole

import Derived.Test.YbulkdkwuHash
namespace Go.Proofs.Ybulkdkwu.lawS5597AWhole
open Go.RowKit Go.Deep
set_option linter.unusedVariables false
set_option linter.unusedSimpArgs false

theorem info32 : (Yba.prog.info? 32).map (fun i => (i.zero, i.size, i.bytes)) = some (some (.agg #[.int .u64 0, .slice none 0 0]), 2, 32) := by kernel_rfl

/-- A call that is noted: its index, where its digest lies. -/
structure Lg where
  ix : Int
  g : Nat
  c : Nat
def encG (ds : Nat) (x : Lg) : List Value := [.int .u64 x.ix, .slice (some ⟨x.g, 0, none⟩) ds x.c]
theorem encG_len (ds : Nat) (x : Lg) : (encG ds x).length = 2 := rfl
theorem encG_one (ds : Nat) (x : Lg) : ∀ u ∈ encG ds x, u.oneCell' = true := by intro u hu; simp [encG] at hu; rcases hu with rfl | rfl <;> rfl

theorem row_ne {w : World} {b t n b' t' n' : Nat} {f f' : Nat → Value} (h : w.rowIs b t n f) (h' : w.rowIs b' t' n' f') (ht : t ≠ t') : b ≠ b' := by
  rintro rfl
  obtain ⟨c, hc, _⟩ := h
  obtain ⟨c', hc', _⟩ := h'
  rw [hc] at hc'
  injection hc' with hc'
  injection hc' with _ hc'
  exact ht hc'

/-- What the noting of a call leaves. -/
def LogPost (ix F : Int) (i ds cb logb base : Nat) (lv fv : Value) (LS : List Lg) (V : Nat → Int) (w : World) (e : Ending) (w' : World) : Prop :=
  ∃ (gl cl gd cd : Nat), e = .returned (if (i : Int) = F then fv else .nilIface) ∧ w'.rowIs cb 3 1 (fun _ => .int .i64 (i + 1 : Nat)) ∧ w'.rowIs logb 30 1 (fun _ => .slice (some ⟨gl, 0, none⟩) (i + 1) cl) ∧
        w'.ownsRow base 32 2 (.slice (some ⟨gl, 0, none⟩) (i + 1) cl) (i + 1) (flat (encG ds) (LS ++ [⟨ix, gd, cd⟩])) ∧ w'.ownsRow w.heap.size 5 1 (.slice (some ⟨gd, 0, none⟩) ds cd) ds (bl V ds) ∧ Chg (cb :: logb :: lv.ownBlock.toList) w w'

set_option maxRecDepth 100000 in
set_option maxHeartbeats 4000000 in
theorem log_ok (ix F : Int) (i g off cap ds cb logb fa fb base : Nat) (lv fv : Value) (a0 : Option Addr) (c0 : Nat) (LS : List Lg) (V : Nat → Int) (w : World) (hds : 0 < ds ∧ ds ≤ 8) (hi : i ≤ 100000) (hlv : lv = .slice a0 i c0)
    (hv : ∀ j, j < ds → w.cell? ⟨g, off + j, none⟩ = some (.int .u8 (V j))) (hg : g ≠ cb)
    (hc : w.rowIs cb 3 1 (fun _ => .int .i64 i)) (hl : w.rowIs logb 30 1 (fun _ => lv)) (hne : cb ≠ logb) (hlog : w.ownsRow base 32 2 lv i (flat (encG ds) LS)) (hbase : base ≤ w.heap.size)
    (hF : w.rowIs fa 3 1 (fun _ => .int .i64 F)) (hfc : fa ≠ cb) (hfv : w.rowIs fb 26 1 (fun _ => fv)) :
    Calls Yba.prog 8 #[.int .u64 ix, .slice (some ⟨g, off, none⟩) ds cap, pt cb, pt logb, pt fa, pt fb] w fun e w' =>
      LogPost ix F i ds cb logb base lv fv LS V w e w' := by
  subst hlv
  obtain ⟨i0, ii, hz0, hz1, hz2⟩ := info_parts info5
  obtain ⟨j0, ji, jz0, jz1, jz2⟩ := info_parts info32
  obtain ⟨hd1, hd2⟩ := hds
  have hcc := hc.cell (i := 0) (by omega)
  have hcf := hc.frozen 0
  have hcb := hc.lt
  have hlb := hl.lt
  have hown := hlog.lt
  have hnl : ∀ b, (Value.slice a0 i c0).ownBlock = some b → b ≠ cb ∧ b ≠ logb ∧ b ≠ fa ∧ b ≠ fb := fun b hb => by
    refine ⟨?_, ?_, ?_, ?_⟩
    · rintro rfl; exact own_row_apart hlog hc (by decide) hb
    · rintro rfl; exact own_row_apart hlog hl (by decide) hb
    · rintro rfl; exact own_row_apart hlog hF (by decide) hb
    · rintro rfl; exact own_row_apart hlog hfv (by decide) hb
  have hfl : fa ≠ logb := row_ne hF hl (by decide)
  have hbl : fb ≠ logb := row_ne hfv hl (by decide)
  have hbc : fb ≠ cb := row_ne hfv hc (by decide)
  have hsw : (w.setCell ⟨cb, 0, none⟩ (.int .i64 ((i : Int) + 1))).heap.size = w.heap.size := nblk_setCell _ _ _
  have ch1 : Chg [cb] w (w.setCell ⟨cb, 0, none⟩ (.int .i64 ((i : Int) + 1))) := (Chg.refl _ w).setCell _ _ (by simp)
  have hc1 : (w.setCell ⟨cb, 0, none⟩ (.int .i64 ((i : Int) + 1))).rowIs cb 3 1 (fun _ => .int .i64 (i + 1 : Nat)) := (hc.set 0 _).congr (fun j hj => by rw [if_pos (by omega)]; congr 1)
  have hiw : IntKind.i64.wrap ((i : Int) + 1) = (i : Int) + 1 := by rw [IntKind.wrap_i64]; omega
  have hii : (i : Int) + 1 ≤ 200000 := by omega
  have HW : Hid (∀ w1, w1 = w.setCell ⟨cb, 0, none⟩ (.int .i64 ((i : Int) + 1)) → Chg [cb] w w1 ∧ w1.heap.size = w.heap.size ∧ w1.rowIs cb 3 1 (fun _ => .int .i64 (i + 1 : Nat))) := fun w1 h => by subst h; exact ⟨ch1, hsw, hc1⟩
  have HH := hid_mk (And.intro hl (And.intro hlog (And.intro hF (And.intro hfv (And.intro hv (And.intro hown hnl))))))
  clear hv hc hl hlog hF hfv hown hnl hsw ch1 hc1
  go_enter Yba.func8, Yba.ntmps8
  go_upto_region 3 with fail
  generalize hw1 : w.setCell ⟨cb, 0, none⟩ (.int .i64 ((i : Int) + 1)) = w1
  obtain ⟨ch1, hs1, hc1⟩ := HW.out w1 hw1.symm
  obtain ⟨hl, hlog, hF, hfv, hv, hown, hnl⟩ := HH.out
  have hl1 := ch1.row hl (by simpa using fun h => hne h.symm)
  have hF1 := ch1.row hF (by simpa using hfc)
  have hfv1 := ch1.row hfv (by simpa using hbc)
  have hlog1 := ch1.own hlog (by intro b hb; simp; exact (hnl b hb).1)
  have hv1 : ∀ j, j < ds → w1.cell? ⟨g, off + j, none⟩ = some (.int .u8 (V j)) := fun j hj => ch1.cell (hv j hj) (by simpa using hg)
  have hlc := hl1.cell (i := 0) (by omega)
  have hlca : ∀ o, (w1.alloc o).cell? ⟨logb, 0, none⟩ = some (.slice a0 i c0) := fun o => (hl1.alloc o).cell (i := 0) (by omega)
  -- the first append
  have H1 : Hid ((w1.alloc (.cells #[] 5)).drew.ownsRow w1.heap.size 5 1 (.slice (some ⟨w1.heap.size, 0, none⟩) 0 0) 0 []) :=
    ⟨rfl, .inr ⟨w1.heap.size, 0, #[], rfl, Nat.le_refl _, heap_alloc_new w1 _, Nat.le_refl _, Nat.zero_le _, rfl, rfl⟩⟩
  have H2 : Hid (∀ j u, (bl V ds)[j]? = some u → (w1.alloc (.cells #[] 5)).drew.cell? ((⟨g, off, none⟩ : Addr).add j) = some u) := bl_cell fun j hj => by rw [Go.WideShapes.add_plain]; exact ((Chg.refl [] w1).alloc _).cell (a := ⟨g, off + j, none⟩) (hv1 j hj) (by simp)
  have H3 : Hid (∀ w2, (w1.alloc (.cells #[] 5)).drew.grownBy w2 (Value.slice (some ⟨w1.heap.size, 0, none⟩) 0 0).ownBlock → Chg [] w1 w2 ∧ w2.rowIs logb 30 1 (fun _ => .slice a0 i c0) ∧ w2.cell? ⟨logb, 0, none⟩ = some (.slice a0 i c0) ∧ (∀ o, (w2.alloc o).cell? ⟨logb, 0, none⟩ = some (.slice a0 i c0)) ∧ (∀ o, (w2.alloc o).ownsRow base 32 2 (.slice a0 i c0) i (flat (encG ds) LS)) ∧ base ≤ w2.heap.size ∧ (∀ o, (w2.alloc o).heap[w2.heap.size]? = some o)) := fun w2 h => by
    have hch : Chg [] w1 w2 := (((Chg.refl [] w1).alloc _).drew).grown h (by intro b hb hlt; simp [Value.ownBlock] at hb; omega)
    have hr := hch.row hl1 (by simp)
    exact ⟨hch, hr, hr.cell (i := 0) (by omega), fun o => (hr.alloc o).cell (i := 0) (by omega), fun o => (hch.own hlog1 (by simp)).alloc o, by have := hch.size; omega, fun o => heap_alloc_new w2 o⟩
  have H4 : Hid (∀ w2 w3 o, Chg [] w1 w2 → w2.rowIs logb 30 1 (fun _ => .slice a0 i c0) → (w2.alloc o).grownBy w3 (Value.slice a0 i c0).ownBlock → Chg (Value.slice a0 i c0).ownBlock.toList w2 w3 ∧ w3.rowIs logb 30 1 (fun _ => .slice a0 i c0) ∧ w3.cell? ⟨logb, 0, none⟩ = some (.slice a0 i c0) ∧ w3.frozen? ⟨logb, 0, none⟩ = false) := fun w2 w3 o h1 h2 h3 => by
    have hch : Chg (Value.slice a0 i c0).ownBlock.toList w2 w3 := ((Chg.refl _ w2).alloc o).grown h3 (by intro b hb _; rw [hb]; simp)
    have hr := hch.row h2 (by rw [Option.mem_toList]; exact fun h => (hnl _ h).2.1 rfl)
    exact ⟨hch, hr, hr.cell (i := 0) (by omega), hr.frozen 0⟩
  have H5 : Hid (∀ w2 w3 gd cd gl cl, Chg [] w1 w2 → (∀ o, (w2.alloc o).ownsRow base 32 2 (.slice a0 i c0) i (flat (encG ds) LS)) → Chg (Value.slice a0 i c0).ownBlock.toList w2 w3 → w3.rowIs logb 30 1 (fun _ => .slice a0 i c0) →
      w2.ownsRow w1.heap.size 5 1 (.slice (some ⟨gd, 0, none⟩) (0 + ds) cd) (0 + ds) ([] ++ bl V ds) → w3.ownsRow base 32 2 (.slice (some ⟨gl, 0, none⟩) (i + 1) cl) (i + 1) (flat (encG ds) LS ++ encG ds ⟨ix, gd, cd⟩) →
      ∀ W, W = w3.setCell ⟨logb, 0, none⟩ (.slice (some ⟨gl, 0, none⟩) (i + 1) cl) → W.cell? ⟨fa, 0, none⟩ = some (.int .i64 F) ∧ W.cell? ⟨fb, 0, none⟩ = some fv ∧ W.rowIs cb 3 1 (fun _ => .int .i64 (i + 1 : Nat)) ∧ W.rowIs logb 30 1 (fun _ => .slice (some ⟨gl, 0, none⟩) (i + 1) cl) ∧
        W.ownsRow base 32 2 (.slice (some ⟨gl, 0, none⟩) (i + 1) cl) (i + 1) (flat (encG ds) (LS ++ [⟨ix, gd, cd⟩])) ∧ W.ownsRow w.heap.size 5 1 (.slice (some ⟨gd, 0, none⟩) ds cd) ds (bl V ds) ∧ Chg (cb :: logb :: (Value.slice a0 i c0).ownBlock.toList) w W) := by
    rintro w2 w3 gd cd gl cl hA hoA hB hrB hd hL W rfl
    rw [Nat.zero_add, List.nil_append, hs1] at hd
    have hno : ∀ x, x ≠ cb → x = fa ∨ x = fb ∨ x = cb → True := fun _ _ _ => trivial
    have keep : ∀ (b t n : Nat) (f : Nat → Value), (∀ y, (Value.slice a0 i c0).ownBlock = some y → y ≠ b) → b ≠ logb → w1.rowIs b t n f → (w3.setCell ⟨logb, 0, none⟩ (.slice (some ⟨gl, 0, none⟩) (i + 1) cl)).rowIs b t n f := fun b t n f h1 h2 h3 =>
      (hB.row (hA.row h3 (by simp)) (by rw [Option.mem_toList]; exact fun h => h1 b h rfl)).setOther (by exact h2) _
    refine ⟨(keep _ _ _ _ (fun y hy => (hnl y hy).2.2.1) hfl hF1).cell (i := 0) (by omega), (keep _ _ _ _ (fun y hy => (hnl y hy).2.2.2) hbl hfv1).cell (i := 0) (by omega), keep _ _ _ _ (fun y hy => (hnl y hy).1) hne hc1, (hrB.set 0 _).congr (fun j hj => by rw [if_pos (by omega)]), ?_, ?_, ?_⟩
    · rw [flat_append, flat_one]
      exact own_setCell hL _ _ (fun x hx h => own_row_apart hL hrB (by decide) (by rw [hx, h]))
    · refine own_setCell (hB.own hd ?_) _ _ ?_
      · intro x hx hm
        rw [Option.mem_toList] at hm
        exact own_apart (hoA (.cells #[] 5)) (hd.alloc (.cells #[] 5)) (by decide) hm hx
      · intro x hx h
        have h2 := hB.own hd (fun y hy hm => by rw [Option.mem_toList] at hm; exact own_apart (hoA (.cells #[] 5)) (hd.alloc (.cells #[] 5)) (by decide) hm hy)
        exact own_row_apart h2 hrB (by decide) (by rw [hx, h])
    · exact ((ch1.trans (hA.trans hB)).mono (L' := cb :: logb :: (Value.slice a0 i c0).ownBlock.toList) (by intro x hx _; simp at hx ⊢; rcases hx with h | h; exact .inl h; exact .inr (.inr h))).setCell _ _ (by simp)
  have HY := hid_mk (And.intro ch1 (And.intro hs1 (And.intro hc1 (And.intro hF1 (And.intro hfv1 hnl)))))
  clear hl hlog hF hfv hv hown hnl hl1 hF1 hfv1 hlog1 hv1 hcc hcf ch1 hs1 hc1 HW HH hw1 hcb hlb
  go_region_law (first
    | (refine step_append_lies _ rfl (.tmp 15) (.tmp 16) 23 rfl w1.heap.size 5 i0 _ 1 1 Yba.underlying23 ii hz0 hz1 hz2 rfl (by decide) (.slice (some ⟨w1.heap.size, 0, none⟩) 0 0) 0 [] (by simp [Act.eval, Act.put]) (by exact H1.out) ⟨g, off, none⟩ ds cap (bl V ds) (by simp [Act.eval, Act.put]) (by rw [bl_len]; omega) (by exact H2.out) (bl_one V ds) hd1 (by unfold maxLen; omega) (by omega) (by simp) _ rfl ?_; intro gd cd w2 hown2 hgrow2 hat2 hlt2; obtain ⟨hchA, hrA, hcA, hcA2, hoA, hsA, hnA⟩ := H3.out w2 hgrow2)
    | (refine step_append_lies _ rfl (.tmp 13) (.tmp 19) 30 rfl base 32 j0 _ 2 32 Yba.underlying30 ji jz0 jz1 jz2 rfl (by decide) (.slice a0 i c0) i (flat (encG ds) LS) (by simp [Act.eval, Act.put]) (by exact hoA _) ⟨w2.heap.size, 0, none⟩ 1 1 (encG ds ⟨ix, gd, cd⟩) (by simp [Act.eval, Act.put]) rfl (World.news_of_block (by exact hnA _)) (encG_one _ _) (by decide) (by unfold maxLen; omega) (by omega) (by simp; omega) _ rfl ?_; intro gl cl w3 hown3 hgrow3 hat3 hlt3; obtain ⟨hchB, hrB, hcB, hfB⟩ := H4.out w2 w3 _ hchA hrA hgrow3))
  all_goals
    generalize hW : w3.setCell ⟨logb, 0, none⟩ (.slice (some ⟨gl, 0, none⟩) (i + 1) cl) = W
    obtain ⟨k1, k2, k3, k4, k5, k6, k7⟩ := H5.out w2 w3 gd cd gl cl hchA hoA hchB hrB hown2 hown3 W hW.symm
    have HK := hid_mk (And.intro k3 (And.intro k4 (And.intro k5 (And.intro k6 k7))))
    clear hown2 hgrow2 hat2 hlt2 hchA hrA hcA hcA2 hoA hsA hnA hown3 hgrow3 hat3 hlt3 hchB hrB hcB hfB hW k3 k4 k5 k6 k7 H1 H2 H3 H4 H5 HY hlc hlca
    by_cases hiF : (i : Int) = F
    · subst hiF
      clear hiw hii
      go_wp2_with fail
      go_ret
      unfold LogPost
      exact ⟨gl, cl, gd, cd, by rw [if_pos rfl]; rfl, HK.out⟩
    · clear hiw hii
      go_wp2_with fail
      go_ret
      unfold LogPost
      exact ⟨gl, cl, gd, cd, by rw [if_neg hiF]; rfl, HK.out⟩
end Go.Proofs.Ybulkdkwu.lawS5597AWhole

import Derived.Test.YbulkdkxiDec
import Derived.Laws.Tables
import Derived.Deep.RegionLaw
/-! The state that the law's decode and lastTwo's keep. -/
namespace Go.Proofs.Ybulkdkxi.lawS5598AWhole
open Go.RowKit Go.Deep
set_option linter.unusedVariables false
set_option linter.unusedSimpArgs false

/-- The blocks of the state, and what does not change. -/
structure Ks where
  (bm bn bc sd so bd bp be bk bo N : Nat)
  mask : Int
  neg : Bool
  Pl : Int → Prop
structure Ks.Ok (K : Ks) : Prop where
  h1 : K.bm < K.bn
  h2 : K.bn < K.bc
  h3 : K.bc < K.sd
  h4 : K.sd < K.so
  h5 : K.so < K.bd
  h6 : K.bd < K.bp
  h7 : K.bp < K.be
  h8 : K.be < K.bk
  h9 : K.bk < K.bo
  h10 : K.bo < K.N
  um : U K.mask
  up : ∀ x, K.Pl x → U x
abbrev Ks.dec (K : Ks) (x : Int) : Int := decF K.mask K.neg x
abbrev Ks.decV (K : Ks) : Value := .func (.func 4) #[] #[pt K.bc, pt K.bm, pt K.bn]
abbrev Ks.lastV (K : Ks) : Value := .func (.func 22) #[] #[pt K.bk, pt K.bp, pt K.be, pt K.bd, pt K.bo]

/-- Block c is the row behind the slice in the variable 'calls'. -/
def Back (bc : Nat) (w : World) (c : Nat) : Prop := ∃ (ad : Addr) (n k : Nat), w.cell? ⟨bc, 0, none⟩ = some (.slice (some ad) n k) ∧ ad.block = c
def OwnL (L : List Nat) (bc : Nat) (w : World) (c : Nat) : Prop := c ∈ L ∨ Back bc w c

/-- What has moved: only what is owned, and what is new. -/
structure Moved (L : List Nat) (bc : Nat) (w w' : World) : Prop where
  os : w'.os = w.os
  tape : w'.tape = w.tape
  output : w'.output = w.output
  size : w.heap.size ≤ w'.heap.size
  keep : ∀ c, c < w.heap.size → ¬ OwnL L bc w c → w'.heap[c]? = w.heap[c]? ∧ ¬ OwnL L bc w' c

namespace Moved
variable {L L' : List Nat} {bc : Nat} {w w1 w2 : World}
theorem refl (L : List Nat) (bc : Nat) (w : World) : Moved L bc w w := ⟨rfl, rfl, rfl, Nat.le_refl _, fun c _ h => ⟨rfl, h⟩⟩
theorem trans (h : Moved L bc w w1) (k : Moved L bc w1 w2) : Moved L bc w w2 :=
  ⟨k.os.trans h.os, k.tape.trans h.tape, k.output.trans h.output, Nat.le_trans h.size k.size, fun c hc hn => by
    obtain ⟨e1, n1⟩ := h.keep c hc hn
    obtain ⟨e2, n2⟩ := k.keep c (Nat.lt_of_lt_of_le hc h.size) n1
    exact ⟨e2.trans e1, n2⟩⟩
theorem wide (h : Moved L bc w w1) (hL : ∀ c ∈ L, c ∈ L') : Moved L' bc w w1 :=
  ⟨h.os, h.tape, h.output, h.size, fun c hc hn => by
    have n1 : ¬ OwnL L bc w c := fun ho => hn (ho.imp (hL c) id)
    obtain ⟨e, n2⟩ := h.keep c hc n1
    exact ⟨e, fun ho => ho.elim (fun hm => hn (.inl hm)) (fun hb => n2 (.inr hb))⟩⟩
/-- A store into an owned block that is not the variable's. -/
theorem store (w : World) (a : Addr) (v : Value) (ha : a.block ∈ L) (hb : a.block ≠ bc) : Moved L bc w (w.setCell a v) :=
  ⟨rfl, rfl, rfl, by rw [nblk_setCell]; exact Nat.le_refl _, fun c hc hn => ⟨blk_setCell_other _ _ _ _ (fun e => hn (.inl (by rw [e]; exact ha))), fun ho => hn (ho.imp id fun ⟨ad, n, k, h1, h2⟩ => ⟨ad, n, k, by
    rw [World.cell?_setCell_other _ _ _ _ (by intro e; rw [e] at hb; exact hb rfl)] at h1
    exact h1, h2⟩)⟩⟩
theorem drewN (h : Moved L bc w w1) (k : Nat) : Moved L bc w (w1.drewN k) := ⟨h.os, h.tape, h.output, h.size, h.keep⟩
theorem row {b t n : Nat} {f : Nat → Value} (h : Moved L bc w w1) (hr : w.rowIs b t n f) (hb : ¬ OwnL L bc w b) : w1.rowIs b t n f := hr.of_block (h.keep b hr.lt hb).1
theorem alloc (h : Moved L bc w w1) (o : Obj) (hbc : bc < w1.heap.size) : Moved L bc w (w1.alloc o) :=
  h.trans ⟨rfl, rfl, rfl, by simp, fun c hc hn => ⟨blk_alloc_lt _ _ _ hc, fun ho => hn (ho.imp id fun ⟨ad, n, k, h1, h2⟩ => ⟨ad, n, k, by
    rw [World.cell?_of_block (w := w1) (blk_alloc_lt _ _ _ hbc)] at h1
    exact h1, h2⟩)⟩⟩
end Moved

/-- 'calls': at most q of the places. -/
def Cal (K : Ks) (q : Nat) (w : World) : Prop :=
  ∃ (a : Option Addr) (n c : Nat) (xs : List Int), w.rowIs K.bc 22 1 (fun _ => .slice a n c) ∧ w.ownsRow K.N 23 1 (.slice a n c) n (xs.map uV) ∧ (∀ x ∈ xs, K.Pl x) ∧ n ≤ q

theorem Cal.back {K : Ks} {q : Nat} {w : World} (h : Cal K q w) {c : Nat} (hb : Back K.bc w c) : K.N ≤ c ∧ c < w.heap.size := by
  obtain ⟨a, n, k, xs, h1, h2, _⟩ := h
  obtain ⟨ad, n', k', e, rfl⟩ := hb
  rw [h1.cell (by omega)] at e
  injection e with e
  injection e with e
  subst e
  obtain ⟨_, h | ⟨g, cap, cur, hv, hb, hh, _⟩⟩ := h2
  · simp at h
  · injection hv with hv
    injection hv with hv
    subst hv
    exact ⟨hb, by
      rcases Nat.lt_or_ge g w.heap.size with hlt | hge
      · exact hlt
      · rw [Array.getElem?_eq_none hge] at hh; cases hh⟩

theorem info23' : (Yba.prog.info? 23).map (fun i => (i.zero, i.size, i.bytes)) = some (some (.int .u32 0), 1, 4) := by kernel_rfl

set_option maxRecDepth 100000 in
set_option maxHeartbeats 2000000 in
/-- The law's decode: it notes the place in 'calls'. -/
theorem decode_y (K : Ks) (hK : K.Ok) (q : Nat) (x : Int) (w : World) (hx : K.Pl x) (hq : q ≤ 10000000000000) (hN : K.N ≤ w.heap.size) (hc : Cal K q w) (hm : w.rowIs K.bm 23 1 (fun _ => uV K.mask)) (hn : w.rowIs K.bn 4 1 (fun _ => .bool K.neg)) :
    Calls Yba.prog 4 #[uV x, pt K.bc, pt K.bm, pt K.bn] w fun e w' => e = .returned (.int .i64 (K.dec x)) ∧ Cal K (q + 1) w' ∧ Moved [K.bc] K.bc w w' := by
  obtain ⟨a, n, c, xs, hrow, hown, hpl, hnq⟩ := hc
  obtain ⟨i0, hi, hz0, hz1, hz2⟩ := info_parts info23'
  have hdec := hid_mk (fun w => dec_y x K.mask K.neg w (hK.up x hx) hK.um)
  have k1 := hK.h1
  have k2 := hK.h2
  have hbcN : K.bc < K.N := by have := hK.h3; have := hK.h4; have := hK.h5; have := hK.h6; have := hK.h7; have := hK.h8; have := hK.h9; have := hK.h10; omega
  have cc := hrow.cell (i := 0) (by omega)
  have hown2 : Hid ((w.alloc (.cells #[uV x] 23)).ownsRow K.N 23 1 (.slice a n c) n (xs.map uV)) := hown.alloc _
  have hnew : Hid (∀ j u, [uV x][j]? = some u → (w.alloc (.cells #[uV x] 23)).cell? ((⟨w.heap.size, 0, none⟩ : Addr).add j) = some u) := by
    intro j u hu
    cases j with
    | zero => simp at hu; subst hu; simp [Addr.add]
    | succ j => simp at hu
  have hback : Hid (∀ g, (Value.slice a n c).ownBlock = some g → K.N ≤ g ∧ Back K.bc w g) := by
    intro g hg
    have hb : Back K.bc w g := by
      cases a with
      | none => simp [Value.ownBlock] at hg
      | some ad => simp [Value.ownBlock] at hg; exact ⟨ad, n, c, hrow.cell (i := 0) (by omega), hg⟩
    exact ⟨(Cal.back ⟨a, n, c, xs, hrow, hown, hpl, hnq⟩ hb).1, hb⟩
  have HR := hid_mk hrow
  have HM := hid_mk hm
  have HN := hid_mk hn
  have HP := hid_mk hpl
  clear hrow hown hpl hm hn
  go_enter Yba.func4, Yba.ntmps4
  go_wp2_with (at_builtin; go_must (refine wpList_append_lies _ rfl (.tmp 6) (.tmp 8) 22 rfl K.N 23 i0 _ 1 4 Yba.underlying22 hi hz0 hz1 hz2 rfl (by decide) _ n (xs.map uV) rfl hown2.out ⟨w.heap.size, 0, none⟩ 1 1 [uV x] rfl (by simp) hnew.out (by intro u hu; simp at hu; subst hu; rfl) (by omega) (by unfold maxLen; omega) (by omega) (by simp; omega) (w.heap.size + 1) (by simp) ?_))
  intro g' c' w1 hown1 hgrow1 hat1 hlt1
  have hch : Hid (Chg ((Value.slice a n c).ownBlock.toList) w w1) := ((Chg.refl _ w).alloc (.cells #[uV x] 23)).grown hgrow1 (by intro k hk hlt; simp [hk])
  have hnot : ∀ b, b < K.N → b ∉ (Value.slice a n c).ownBlock.toList := by
    intro b hb hm
    simp only [Option.mem_toList, Option.mem_def] at hm
    have := (hback.out b hm).1
    omega
  have hrow1 := hch.out.row HR.out (hnot _ hbcN)
  have hm1 := (hch.out.row HM.out (hnot _ (by omega))).setOther (a := ⟨K.bc, 0, none⟩) (by show K.bm ≠ K.bc; omega) (.slice (some ⟨g', 0, none⟩) (n + 1) c')
  have hn1 := (hch.out.row HN.out (hnot _ (by omega))).setOther (a := ⟨K.bc, 0, none⟩) (by show K.bn ≠ K.bc; omega) (.slice (some ⟨g', 0, none⟩) (n + 1) c')
  have c1 := hrow1.cell (i := 0) (by omega)
  have f1 := hrow1.frozen 0
  have c2 := hm1.cell (i := 0) (by omega)
  have c3 := hn1.cell (i := 0) (by omega)
  have hg' : K.N ≤ g' := by
    obtain ⟨_, h | ⟨g, cap, cur, hv, hb, _⟩⟩ := hown1
    · simp at h
    · injection hv with hv
      injection hv with hv
      injection hv with hv
      omega
  have hfin : Hid (Cal K (q + 1) (w1.setCell ⟨K.bc, 0, none⟩ (.slice (some ⟨g', 0, none⟩) (n + 1) c')) ∧ Moved [K.bc] K.bc w (w1.setCell ⟨K.bc, 0, none⟩ (.slice (some ⟨g', 0, none⟩) (n + 1) c'))) := by
    refine ⟨⟨some ⟨g', 0, none⟩, n + 1, c', xs ++ [x], row_set1 hrow1 _, ?_, ?_, by omega⟩, ?_⟩
    · have h1 := ((Chg.refl [K.bc] w1).setCell ⟨K.bc, 0, none⟩ (.slice (some ⟨g', 0, none⟩) (n + 1) c') (fun _ => by simp)).own hown1 (by intro g hg; simp [Value.ownBlock] at hg; subst hg; simp; omega)
      rw [List.map_append]
      exact h1
    · intro y hy
      rcases List.mem_append.1 hy with hy | hy
      · exact HP.out y hy
      · simp at hy; subst hy; exact hx
    · refine ⟨hch.out.os, hch.out.tape, hch.out.output, by rw [nblk_setCell]; exact hch.out.size, fun b hb hno => ?_⟩
      have hb1 : b ≠ K.bc := fun e => hno (.inl (by simp [e]))
      have hb2 : b ∉ (Value.slice a n c).ownBlock.toList := fun hm => hno (.inr (by simp only [Option.mem_toList, Option.mem_def] at hm; exact (hback.out b hm).2))
      refine ⟨(blk_setCell_other _ _ _ _ (by exact hb1)).trans (hch.out.block b hb hb2), fun ho => ?_⟩
      rcases ho with ho | ⟨ad, n2, k2, h1, h2⟩
      · simp at ho; exact hb1 ho
      · rw [World.cell?_setCell_same _ _ _ c1] at h1
        injection h1 with h1
        injection h1 with h1
        injection h1 with h1
        subst h1
        simp at h2
        subst h2
        rcases hat1 with h | h
        · exact hb2 (by simp [h])
        · omega
  clear hrow1 hm1 hn1 hgrow1 hown1 hat1 hnot hback hch
  go_wp2_with (first | (go_at_call 5; refine (hdec.out _).mono ?_; rintro e w' ⟨rfl, rfl⟩))
  go_ret
  exact ⟨rfl, hfin.out.1, hfin.out.2⟩

end Go.Proofs.Ybulkdkxi.lawS5598AWhole

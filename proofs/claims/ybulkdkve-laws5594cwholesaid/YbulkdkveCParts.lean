import Derived.Test.YbulkdkveCState
namespace Go.Proofs.Ybulkdkve.lawS5594CWhole
open Go.RowKit Go.Deep
set_option linter.unusedVariables false
set_option linter.unusedSimpArgs false

section
variable {B : Nat} {tz rz : Nat → Value} {nm : ByteArray} {hv lv : Value} {hs : List Hd} {ls : List Lk} {hc : Nat → Int} {w : World}

theorem Sys.setMode {g n c p : Nat} (h : Sys B tz rz nm (.slice (some ⟨g, 0, none⟩) n c) lv hs ls hc w) (hn : hs.length = n) (hp : p < hs.length) (m : Int) :
    Sys B tz rz nm (.slice (some ⟨g, 0, none⟩) n c) lv (hs.set p ⟨hs[p].b, m, hs[p].l⟩) ls hc (w.setCell ⟨g, p * 4 + 1, none⟩ (.int .u8 m)) := by
  have hg := h.hlt (g := g) rfl
  refine ⟨h.t.setOther (by simp; omega) _, h.r.setOther (by simp; omega) _, ?_, own_setCell h.lo _ _ (fun g' hg' e => ?_)⟩
  · have ho := h.ho
    rw [hn] at ho
    have := ho.stored (p * 4 + 1) (.int .u8 m)
    rw [flat_set encH_len hs hp (show 1 < 4 by omega) _ ⟨hs[p].b, m, hs[p].l⟩ rfl] at this
    rw [List.length_set, hn]
    exact this.1
  · simp at e
    subst e
    exact h.hl (g := g') rfl hg'

theorem Sys.setUp {g n c p : Nat} (h : Sys B tz rz nm hv (.slice (some ⟨g, 0, none⟩) n c) hs ls hc w) (hn : ls.length = n) (hp : p < ls.length) (u : Int) :
    Sys B tz rz nm hv (.slice (some ⟨g, 0, none⟩) n c) hs (ls.set p ⟨ls[p].b, ls[p].h, u⟩) hc (w.setCell ⟨g, p * 3 + 2, none⟩ (.int .i64 u)) := by
  have hg := h.llt (g := g) rfl
  refine ⟨h.t.setOther (by simp; omega) _, h.r.setOther (by simp; omega) _, own_setCell h.ho _ _ (fun g' hg' e => ?_), ?_⟩
  · simp at e
    subst e
    exact h.hl hg' rfl
  · have lo := h.lo
    rw [hn] at lo
    have := lo.stored (p * 3 + 2) (.int .i64 u)
    rw [flat_set encL_len ls hp (show 2 < 3 by omega) _ ⟨ls[p].b, ls[p].h, u⟩ rfl] at this
    rw [List.length_set, hn]
    exact this.1

theorem Sys.hcell {g n c p j : Nat} (h : Sys B tz rz nm (.slice (some ⟨g, 0, none⟩) n c) lv hs ls hc w) (hn : hs.length = n) (hp : p < hs.length) (hj : j < 4) : w.cell? ⟨g, p * 4 + j, none⟩ = (encH hs[p])[j]? := by
  have ho := h.ho
  rw [hn] at ho
  rw [ho.cellAt (p * 4 + j) (by omega), flat_get encH_len hs hp hj]
theorem Sys.lcell {g n c p j : Nat} (h : Sys B tz rz nm hv (.slice (some ⟨g, 0, none⟩) n c) hs ls hc w) (hn : ls.length = n) (hp : p < ls.length) (hj : j < 3) : w.cell? ⟨g, p * 3 + j, none⟩ = (encL ls[p])[j]? := by
  have lo := h.lo
  rw [hn] at lo
  rw [lo.cellAt (p * 3 + j) (by omega), flat_get encL_len ls hp hj]
theorem Sys.hfro {g n c : Nat} (h : Sys B tz rz nm (.slice (some ⟨g, 0, none⟩) n c) lv hs ls hc w) (hn : hs.length = n) (j : Nat) : w.frozen? ⟨g, j, none⟩ = false := by
  have ho := h.ho
  rw [hn] at ho
  exact ho.frozenAt j
theorem Sys.lfro {g n c : Nat} (h : Sys B tz rz nm hv (.slice (some ⟨g, 0, none⟩) n c) hs ls hc w) (hn : ls.length = n) (j : Nat) : w.frozen? ⟨g, j, none⟩ = false := by
  have lo := h.lo
  rw [hn] at lo
  exact lo.frozenAt j

/-- setMode. -/
theorem setMode {g n c p f m : Nat} (h : Sys B tz rz nm (.slice (some ⟨g, 0, none⟩) n c) lv hs ls hc w) (hn : hs.length = n) (hp : p < hs.length) (hnb : n ≤ 100001) (hf : f < 4) (hm : m < 4) (hx : hs[p].m = (f : Int)) (hb : ∀ j, -1000 ≤ hc j ∧ hc j ≤ 900000) :
    Calls Yba.prog 25 #[pt (B + 3), .int .i64 p, .int .u8 m] w fun e w' => e = .returned (.tuple #[]) ∧
      Sys B tz rz nm (.slice (some ⟨g, 0, none⟩) n c) lv (hs.set p ⟨hs[p].b, m, hs[p].l⟩) ls (upd (upd hc f (hc f - 1)) m (upd hc f (hc f - 1) m + 1)) w' ∧ Chg [B + 3, g] w w' := by
  have hg := h.hlt (g := g) rfl
  have hcell := h.hcell hn hp (show 1 < 4 by omega)
  have b1 := hb f
  have b2 := hb m
  refine (setMode_mem (B + 3) g n c p f m (hc f) (upd hc f (hc f - 1) m) w (by omega) hnb hf hm (by omega) (by omega) (by unfold upd; split <;> omega) h.c3 h.c20 (h.cnt hf) (fun hne => (h.cnt hm).trans (by rw [upd, if_neg (Ne.symm hne)])) (fun e => by rw [upd, if_pos e.symm]) h.r.frozen (h.hfro hn) (hcell.trans (by simp [encH, hx]))).mono ?_
  rintro e w' ⟨rfl, rfl⟩
  refine ⟨rfl, ?_, ?_⟩
  · refine Sys.drewN ?_ 2
    have h1 := (h.setC hf (hc f - 1)).setC hm (upd hc f (hc f - 1) m + 1)
    exact h1.setMode hn hp m
  · refine Chg.drewN ?_ 2
    exact (((Chg.refl [B + 3, g] w).setCell _ _ (by simp)).setCell _ _ (by simp)).setCell _ _ (by simp)

set_option maxRecDepth 100000 in
set_option maxHeartbeats 2000000 in
/-- order, in memory. -/
theorem order_last (T g k c : Nat) (w : World) (hk : k ≤ 100000) (hTg : T ≠ g) (x : Int)
    (h5 : w.cell? ⟨T, 5, none⟩ = some (.slice (some ⟨g, 0, none⟩) (k + 1) c)) (hc : w.cell? ⟨g, k * 3 + 2, none⟩ = some (.int .i64 x)) (hf : ∀ i, w.frozen? ⟨g, i, none⟩ = false) :
    Calls Yba.prog 21 #[pt T, .bool true] w fun e w' => e = .returned (.tuple #[]) ∧ w' = w.setCell ⟨g, k * 3 + 2, none⟩ (.int .i64 k) := by
  go_enter Yba.func21, Yba.ntmps21
  go_wp2_with fail
  go_end0
  exact ⟨rfl, rfl⟩

set_option maxRecDepth 100000 in
set_option maxHeartbeats 2000000 in
theorem order_not (T g k c : Nat) (w : World) (hk : k ≤ 100000) (hTg : T ≠ g) (x u : Int)
    (h5 : w.cell? ⟨T, 5, none⟩ = some (.slice (some ⟨g, 0, none⟩) (k + 1 + 1) c)) (hc : w.cell? ⟨g, (k + 1) * 3 + 2, none⟩ = some (.int .i64 x)) (hu : w.cell? ⟨g, k * 3 + 2, none⟩ = some (.int .i64 u)) (hf : ∀ i, w.frozen? ⟨g, i, none⟩ = false) :
    Calls Yba.prog 21 #[pt T, .bool false] w fun e w' => e = .returned (.tuple #[]) ∧ w' = (w.setCell ⟨g, (k + 1) * 3 + 2, none⟩ (.int .i64 ((k : Int) + 1))).setCell ⟨g, (k + 1) * 3 + 2, none⟩ (.int .i64 u) := by
  have hne : ¬ k * 3 + 2 = (k + 1) * 3 + 2 := by omega
  have hne2 : ¬ (k + 1) * 3 = k * 3 := by omega
  go_enter Yba.func21, Yba.ntmps21
  go_wp2_with fail
  go_end0
  exact ⟨rfl, rfl⟩
end
end Go.Proofs.Ybulkdkve.lawS5594CWhole

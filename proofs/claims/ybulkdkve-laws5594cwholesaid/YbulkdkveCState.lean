import Derived.Test.YbulkdkveCBase
namespace Go.Proofs.Ybulkdkve.lawS5594CWhole
open Go.RowKit Go.Deep
set_option linter.unusedVariables false
set_option linter.unusedSimpArgs false

/-! ### Pointers compared -/
/-- The pointer leads to a row of the call's own, or is nil. -/
def Lies (w : World) (b : Nat) : Prop := ∃ c t, w.heap[b]? = some (.cells c t (0, 0))
theorem Lies.row {w : World} {b t n : Nat} {f : Nat → Value} (h : w.rowIs b t n f) : Lies w b := by obtain ⟨c, hc, _⟩ := h; exact ⟨c, t, hc⟩
theorem Lies.chg {L : List Nat} {w w' : World} {b : Nat} (h : Chg L w w') (hl : Lies w b) (hb : b ∉ L) : Lies w' b := by
  obtain ⟨c, t, hc⟩ := hl
  refine ⟨c, t, (h.block b ?_ hb).trans hc⟩
  rcases Nat.lt_or_ge b w.heap.size with h | h
  · exact h
  · rw [Array.getElem?_eq_none h] at hc; cases hc
theorem Lies.setCell {w : World} {b : Nat} (hl : Lies w b) (a : Addr) (v : Value) : Lies (w.setCell a v) b := by
  obtain ⟨c, t, hc⟩ := hl
  by_cases h : b = a.block
  · subst h
    exact ⟨_, t, by simp [World.setCell, Array.getElem?_modify, hc]; rfl⟩
  · exact ⟨c, t, (blk_setCell_other _ _ _ _ h).trans hc⟩

theorem sameAddr_lies {w : World} {a b : Nat} (ha : Lies w a) (hb : Lies w b) : (sameAddr ⟨a, 0, none⟩ ⟨b, 0, none⟩).run Yba.prog w = .ok (decide (a = b)) w := by
  obtain ⟨c, t, ha⟩ := ha
  obtain ⟨c', t', hb⟩ := hb
  by_cases h : a = b
  · subst h; rw [run_sameAddr_same]; simp
  · rw [run_sameAddr_other w (by intro e; injection e; contradiction) ha hb]; simp [h]

theorem info86 : (Yba.prog.info? 86).map (fun i => i.size) = some 21 := by kernel_rfl
theorem info80 : (Yba.prog.info? 80).map (fun i => i.size) = some 16 := by kernel_rfl

theorem eql29 {w : World} {a b : Nat} (ha : Lies w a) (hb : Lies w b) : (binOp .eql 29 (pt a) (pt b)).run Yba.prog w = .ok (.bool (decide (a = b))) w := by
  obtain ⟨i, hi, hs⟩ := Option.map_eq_some_iff.1 info86
  have h : ∀ d, (Op.equalIn (d + 1) 29 (pt a) (pt b)).run Yba.prog w = .ok (decide (a = b)) w := fun d => by
    simp [Op.equalIn, run_underlying Yba.underlying29, typeInfo, sizeOf, hi, hs, sameAddr_lies ha hb]
  simp only [binOp]
  simp [Op.equal, Op.maxDepth, h 9999]
theorem eql28 {w : World} {a b : Nat} (ha : Lies w a) (hb : Lies w b) : (binOp .eql 28 (pt a) (pt b)).run Yba.prog w = .ok (.bool (decide (a = b))) w := by
  obtain ⟨i, hi, hs⟩ := Option.map_eq_some_iff.1 info80
  have h : ∀ d, (Op.equalIn (d + 1) 28 (pt a) (pt b)).run Yba.prog w = .ok (decide (a = b)) w := fun d => by
    simp [Op.equalIn, run_underlying Yba.underlying28, typeInfo, sizeOf, hi, hs, sameAddr_lies ha hb]
  simp only [binOp]
  simp [Op.equal, Op.maxDepth, h 9999]

/-! ### The transaction, the resource -/
def tRow (tz : Nat → Value) (lv : Value) (i : Nat) : Value := if i = 5 then lv else if i = 11 then .pointer none else tz i
def rRow (rz : Nat → Value) (nm : ByteArray) (hv : Value) (hc : Nat → Int) (i : Nat) : Value :=
  if i = 0 then .string nm else if i = 3 then hv else if 8 ≤ i ∧ i < 12 then .int .i64 (hc (i - 8)) else if i = 20 then .pointer none else rz i

structure Sys (B : Nat) (tz rz : Nat → Value) (nm : ByteArray) (hv lv : Value) (hs : List Hd) (ls : List Lk) (hc : Nat → Int) (w : World) : Prop where
  t : w.rowIs (B + 2) 80 16 (tRow tz lv)
  r : w.rowIs (B + 3) 86 21 (rRow rz nm hv hc)
  ho : w.ownsRow (B + 4) 88 4 hv hs.length (flat encH hs)
  lo : w.ownsRow (B + 4) 90 3 lv ls.length (flat encL ls)

theorem tRow_set (tz : Nat → Value) (lv lv' : Value) (i : Nat) : (if i = 5 then lv' else tRow tz lv i) = tRow tz lv' i := by
  by_cases h : i = 5 <;> simp [tRow, h]
theorem rRow_setH (rz : Nat → Value) (nm : ByteArray) (hv hv' : Value) (hc : Nat → Int) (i : Nat) : (if i = 3 then hv' else rRow rz nm hv hc i) = rRow rz nm hv' hc i := by
  by_cases h : i = 3 <;> simp [rRow, h]
/-- One count set. -/
def upd (hc : Nat → Int) (m : Nat) (v : Int) (j : Nat) : Int := if j = m then v else hc j
theorem rRow_setC (rz : Nat → Value) (nm : ByteArray) (hv : Value) (hc : Nat → Int) (m : Nat) (hm : m < 4) (v : Int) (i : Nat) : (if i = 8 + m then .int .i64 v else rRow rz nm hv hc i) = rRow rz nm hv (upd hc m v) i := by
  by_cases h : i = 8 + m
  · subst h
    rw [if_pos rfl]
    unfold rRow upd
    rw [if_neg (by omega), if_neg (by omega), if_pos (by omega), if_pos (by omega)]
  · rw [if_neg h]
    unfold rRow upd
    by_cases h8 : 8 ≤ i ∧ i < 12
    · simp only [if_pos h8]
      rw [if_neg (show ¬ i - 8 = m by omega)]
    · simp only [if_neg h8]
theorem rRow_cnt (rz : Nat → Value) (nm : ByteArray) (hv : Value) (hc : Nat → Int) {m : Nat} (hm : m < 4) : rRow rz nm hv hc (8 + m) = .int .i64 (hc m) := by
  unfold rRow
  rw [if_neg (by omega), if_neg (by omega), if_pos (by omega)]
  congr 2
  omega

namespace Sys
variable {B : Nat} {tz rz : Nat → Value} {nm : ByteArray} {hv lv : Value} {hs : List Hd} {ls : List Lk} {hc : Nat → Int} {w : World}
theorem hlt (h : Sys B tz rz nm hv lv hs ls hc w) {g : Nat} (hg : hv.ownBlock = some g) : B + 4 ≤ g ∧ g < w.heap.size := h.ho.lt g hg
theorem llt (h : Sys B tz rz nm hv lv hs ls hc w) {g : Nat} (hg : lv.ownBlock = some g) : B + 4 ≤ g ∧ g < w.heap.size := h.lo.lt g hg
theorem hl (h : Sys B tz rz nm hv lv hs ls hc w) {g : Nat} (hg : hv.ownBlock = some g) : lv.ownBlock ≠ some g := own_apart h.ho h.lo (by decide) hg
theorem chg {L : List Nat} {w' : World} (h : Sys B tz rz nm hv lv hs ls hc w) (hch : Chg L w w') (h2 : B + 2 ∉ L) (h3 : B + 3 ∉ L) (hh : ∀ g, hv.ownBlock = some g → g ∉ L) (hl : ∀ g, lv.ownBlock = some g → g ∉ L) : Sys B tz rz nm hv lv hs ls hc w' :=
  ⟨hch.row h.t h2, hch.row h.r h3, hch.own h.ho hh, hch.own h.lo hl⟩
/-- A new count. -/
theorem setC (h : Sys B tz rz nm hv lv hs ls hc w) {m : Nat} (hm : m < 4) (v : Int) : Sys B tz rz nm hv lv hs ls (upd hc m v) (w.setCell ⟨B + 3, 8 + m, none⟩ (.int .i64 v)) :=
  ⟨h.t.setOther (by simp) _, (h.r.set (8 + m) _).congr fun i _ => rRow_setC rz nm hv hc m hm v i, own_setCell h.ho _ _ (fun g hg => by have := h.hlt hg; simp; omega), own_setCell h.lo _ _ (fun g hg => by have := h.llt hg; simp; omega)⟩
theorem drewN (h : Sys B tz rz nm hv lv hs ls hc w) (n : Nat) : Sys B tz rz nm hv lv hs ls hc (w.drewN n) := ⟨h.t, h.r, h.ho, h.lo⟩
theorem drew (h : Sys B tz rz nm hv lv hs ls hc w) : Sys B tz rz nm hv lv hs ls hc w.drew := ⟨h.t, h.r, h.ho, h.lo⟩
theorem cnt (h : Sys B tz rz nm hv lv hs ls hc w) {m : Nat} (hm : m < 4) : w.cell? ⟨B + 3, 8 + m, none⟩ = some (.int .i64 (hc m)) := (h.r.cell (i := 8 + m) (by omega)).trans (by rw [rRow_cnt rz nm hv hc hm])
theorem c5 (h : Sys B tz rz nm hv lv hs ls hc w) : w.cell? ⟨B + 2, 5, none⟩ = some lv := h.t.cell (i := 5) (by omega)
theorem c11 (h : Sys B tz rz nm hv lv hs ls hc w) : w.cell? ⟨B + 2, 11, none⟩ = some (.pointer none) := h.t.cell (i := 11) (by omega)
theorem c3 (h : Sys B tz rz nm hv lv hs ls hc w) : w.cell? ⟨B + 3, 3, none⟩ = some hv := h.r.cell (i := 3) (by omega)
theorem c0 (h : Sys B tz rz nm hv lv hs ls hc w) : w.cell? ⟨B + 3, 0, none⟩ = some (.string nm) := h.r.cell (i := 0) (by omega)
theorem c20 (h : Sys B tz rz nm hv lv hs ls hc w) : w.cell? ⟨B + 3, 20, none⟩ = some (.pointer none) := h.r.cell (i := 20) (by omega)
end Sys

set_option maxRecDepth 100000 in
set_option maxHeartbeats 1000000 in
theorem keepsAges (R : Nat) (w : World) (h : w.cell? ⟨R, 20, none⟩ = some (.pointer none)) : Calls Yba.prog 26 #[pt R] w fun e w' => e = .returned (.bool false) ∧ w' = w := by
  go_enter Yba.func26, Yba.ntmps26
  go_wp2_with fail
  go_ret
  exact ⟨rfl, rfl⟩

set_option maxRecDepth 100000 in
set_option maxHeartbeats 1000000 in
theorem promoted (T : Nat) (i f : Int) (w : World) (h : w.cell? ⟨T, 11, none⟩ = some (.pointer none)) : Calls Yba.prog 20 #[pt T, .int .i64 i, .int .u8 f] w fun e w' => e = .returned (.tuple #[]) ∧ w' = w := by
  go_enter Yba.func20, Yba.ntmps20
  go_wp2_with fail
  go_end0
  exact ⟨rfl, rfl⟩

/-- A cell beside a store. -/
theorem cellK {w : World} {a b : Addr} {v x : Value} (h : w.cell? b = some x) (hne : b ≠ a) : (w.setCell a v).cell? b = some x := by
  rw [World.cell?_setCell_other]
  · exact h
  · exact Ne.symm hne
theorem adK {b o b' o' : Nat} (h : ¬ (b = b' ∧ o = o')) : (⟨b, o, none⟩ : Addr) ≠ ⟨b', o', none⟩ := by
  intro e
  injection e with e1 e2
  exact h ⟨e1, e2⟩

set_option maxRecDepth 100000 in
set_option maxHeartbeats 2000000 in
/-- A holder's mode turned, in memory. -/
theorem setMode_mem (R g n c p f m : Nat) (cf cm : Int) (w : World) (hpn : p < n) (hnb : n ≤ 100001) (hf : f < 4) (hm : m < 4) (hRg : R ≠ g) (hb : -1000000 ≤ cf ∧ cf ≤ 1000000) (hb' : -1000000 ≤ cm ∧ cm ≤ 1000000)
    (h3 : w.cell? ⟨R, 3, none⟩ = some (.slice (some ⟨g, 0, none⟩) n c)) (h20 : w.cell? ⟨R, 20, none⟩ = some (.pointer none))
    (hcf : w.cell? ⟨R, 8 + f, none⟩ = some (.int .i64 cf)) (hcm : f ≠ m → w.cell? ⟨R, 8 + m, none⟩ = some (.int .i64 cm)) (heq : f = m → cm = cf - 1)
    (hfr : ∀ i, w.frozen? ⟨R, i, none⟩ = false) (hfg : ∀ i, w.frozen? ⟨g, i, none⟩ = false) (hx : w.cell? ⟨g, p * 4 + 1, none⟩ = some (.int .u8 f)) :
    Calls Yba.prog 25 #[pt R, .int .i64 p, .int .u8 m] w fun e w' => e = .returned (.tuple #[]) ∧ w' = (((w.setCell ⟨R, 8 + f, none⟩ (.int .i64 (cf - 1))).setCell ⟨R, 8 + m, none⟩ (.int .i64 (cm + 1))).setCell ⟨g, p * 4 + 1, none⟩ (.int .u8 m)).drewN 2 := by
  obtain ⟨b1, b2⟩ := hb
  obtain ⟨b3, b4⟩ := hb'
  have k20 : (((w.setCell ⟨R, 8 + f, none⟩ (.int .i64 (cf - 1))).setCell ⟨R, 8 + m, none⟩ (.int .i64 (cm + 1))).setCell ⟨g, p * 4 + 1, none⟩ (.int .u8 m)).cell? ⟨R, 20, none⟩ = some (.pointer none) := cellK (cellK (cellK h20 (adK (by omega))) (adK (by omega))) (adK (by omega))
  by_cases hfm : f = m
  · subst hfm
    have e := heq rfl
    subst e
    rw [show cf - 1 + 1 = cf by omega] at k20 ⊢
    have K20 : Hid ((((w.setCell ⟨R, 8 + f, none⟩ (.int .i64 (cf - 1))).setCell ⟨R, 8 + f, none⟩ (.int .i64 cf)).setCell ⟨g, p * 4 + 1, none⟩ (.int .u8 f)).cell? ⟨R, 20, none⟩ = some (.pointer none)) := k20
    clear heq hcm k20
    go_enter Yba.func25, Yba.ntmps25
    go_wp2_with fail
    go_region
    go_wp2_with fail
    go_region
    go_wp2_with fail
    refine (keepsAges R _ (by exact K20.out)).mono ?_
    rintro e w' ⟨rfl, rfl⟩
    go_wp2_with fail
    go_end0
    exact ⟨rfl, rfl⟩
  · have hmf : ¬ m = f := fun h => hfm h.symm
    have hcm := hcm hfm
    have K20 : Hid ((((w.setCell ⟨R, 8 + f, none⟩ (.int .i64 (cf - 1))).setCell ⟨R, 8 + m, none⟩ (.int .i64 (cm + 1))).setCell ⟨g, p * 4 + 1, none⟩ (.int .u8 m)).cell? ⟨R, 20, none⟩ = some (.pointer none)) := k20
    clear heq k20
    go_enter Yba.func25, Yba.ntmps25
    go_wp2_with fail
    go_region
    go_wp2_with fail
    go_region
    go_wp2_with fail
    refine (keepsAges R _ (by exact K20.out)).mono ?_
    rintro e w' ⟨rfl, rfl⟩
    go_wp2_with fail
    go_end0
    exact ⟨rfl, rfl⟩
end Go.Proofs.Ybulkdkve.lawS5594CWhole

import Derived.Test.YbulkdkveAAdd
import Derived.BigRegion
import Derived.LaidEqlPtr
namespace Go.Proofs.Ybulkdkve.lawS5594AWhole
open Go.RowKit Go.Deep
set_option linter.unusedVariables false

/-- The pointer leads to a row of the call's own, or is nil. -/
def Lies (w : World) (u : Option Addr) : Prop := ∀ a, u = some a → ∃ c t, w.heap[a.block]? = some (.cells c t (0, 0))

theorem Lies.row {w : World} {b t n : Nat} {f : Nat → Value} (h : w.rowIs b t n f) : Lies w (some ⟨b, 0, none⟩) := by
  intro a ha
  obtain ⟨c, hc, _⟩ := h
  injection ha with ha
  subst ha
  exact ⟨c, t, hc⟩
theorem Lies.nil (w : World) : Lies w none := by intro a ha; cases ha

theorem info33 : (Yba.prog.info? 33).map (fun i => i.size) = some 20 := by kernel_rfl

theorem equalIn_ptr {w : World} {u v : Option Addr} (d : Nat) (ho : Lies w u) (hp : Lies w v) :
    (Op.equalIn (d + 1) 24 (.pointer u) (.pointer v)).run Yba.prog w = .ok (decide (u = v)) w := by
  obtain ⟨i, hi, hs⟩ := Option.map_eq_some_iff.1 info33
  cases u with
  | none => cases v <;> simp [Op.equalIn, run_underlying Yba.underlying24]
  | some a =>
    cases v with
    | none => simp [Op.equalIn, run_underlying Yba.underlying24]
    | some b =>
      obtain ⟨c, t, ha⟩ := ho a rfl
      obtain ⟨c', t', hb⟩ := hp b rfl
      have : (sameAddr a b).run Yba.prog w = .ok (decide (a = b)) w := by
        by_cases h : a = b
        · subst h; rw [run_sameAddr_same]; simp
        · rw [run_sameAddr_other w h ha hb]; simp [h]
      simp [Op.equalIn, run_underlying Yba.underlying24, typeInfo, sizeOf, hi, hs, this]

theorem eql_ptr {w : World} {u v : Option Addr} (ho : Lies w u) (hp : Lies w v) :
    (binOp .eql 24 (.pointer u) (.pointer v)).run Yba.prog w = .ok (.bool (decide (u = v))) w := by
  simp only [binOp]
  simp [Op.equal, Op.maxDepth, equalIn_ptr 9999 ho hp]

theorem neq_ptr {w : World} {u v : Option Addr} (ho : Lies w u) (hp : Lies w v) :
    (binOp .neq 24 (.pointer u) (.pointer v)).run Yba.prog w = .ok (.bool (!decide (u = v))) w := by
  simp only [binOp]
  simp [Op.equal, Op.maxDepth, equalIn_ptr 9999 ho hp]

/-- What 'remove' does to the world, step by step. -/
def remW (l q : Nat) (us : Option Addr) (e s : Option Nat) (w : World) : World :=
  let pe : Value := .pointer (e.map fun b => ⟨b, 0, none⟩)
  let ps : Value := .pointer (s.map fun b => ⟨b, 0, none⟩)
  let w1 := if us = some ⟨q, 0, none⟩ then w.setCell ⟨l, 2, none⟩ ps else w
  let w2 := match e with | none => w1.setCell ⟨l, 0, none⟩ ps | some b => w1.setCell ⟨b, 19, none⟩ ps
  let w3 := match s with | none => w2.setCell ⟨l, 1, none⟩ pe | some b => w2.setCell ⟨b, 18, none⟩ pe
  (w3.setCell ⟨q, 18, none⟩ (.pointer none)).setCell ⟨q, 19, none⟩ (.pointer none)

set_option maxRecDepth 100000 in
set_option maxHeartbeats 1000000 in
theorem rem_00 (l q : Nat) (us : Option Addr) (w : World) (hlq : l ≠ q) (v0 v1 : Option Addr)
    (huu : (binOp .eql 24 (.pointer us) (pt q)).run Yba.prog w = .ok (.bool (decide (us = some ⟨q, 0, none⟩))) w)
    (h0 : w.cell? ⟨l, 0, none⟩ = some (.pointer v0)) (h1 : w.cell? ⟨l, 1, none⟩ = some (.pointer v1)) (h2 : w.cell? ⟨l, 2, none⟩ = some (.pointer us))
    (f0 : w.frozen? ⟨l, 0, none⟩ = false) (f1 : w.frozen? ⟨l, 1, none⟩ = false) (f2 : w.frozen? ⟨l, 2, none⟩ = false)
    (q18 : w.cell? ⟨q, 18, none⟩ = some (.pointer none)) (g18 : w.frozen? ⟨q, 18, none⟩ = false) 
    (q19 : w.cell? ⟨q, 19, none⟩ = some (.pointer none)) (g19 : w.frozen? ⟨q, 19, none⟩ = false) :
    Calls Yba.prog 6 #[pt l, pt q] w fun e w' => e = .returned (.tuple #[]) ∧ ∃ n, w' = (remW l q us none none w).drewN n := by
  by_cases hu : us = some ⟨q, 0, none⟩
  · have hR : remW l q us none none w = ((((w.setCell ⟨l, 2, none⟩ (.pointer none)).setCell ⟨l, 0, none⟩ (.pointer none)).setCell ⟨l, 1, none⟩ (.pointer none)).setCell ⟨q, 18, none⟩ (.pointer none)).setCell ⟨q, 19, none⟩ (.pointer none) := by simp [remW, hu]
    rw [hR]
    rw [show decide (us = some ⟨q, 0, none⟩) = true by simp [hu]] at huu
    clear hu hR
    go_enter Yba.func6, Yba.ntmps6
    go_wp2
    go_end0
    exact ⟨rfl, 0, rfl⟩
  · have hR : remW l q us none none w = (((w.setCell ⟨l, 0, none⟩ (.pointer none)).setCell ⟨l, 1, none⟩ (.pointer none)).setCell ⟨q, 18, none⟩ (.pointer none)).setCell ⟨q, 19, none⟩ (.pointer none) := by simp [remW, hu]
    rw [hR]
    rw [show decide (us = some ⟨q, 0, none⟩) = false by simp [hu]] at huu
    clear hu hR
    go_enter Yba.func6, Yba.ntmps6
    go_wp2
    go_end0
    exact ⟨rfl, 0, rfl⟩

set_option maxRecDepth 100000 in
set_option maxHeartbeats 1000000 in
theorem rem_11 (l q e s : Nat) (us : Option Addr) (w : World) (hlq : l ≠ q) (hle : l ≠ e) (hls : l ≠ s) (hqe : q ≠ e) (hqs : q ≠ s) (hes : e ≠ s) (v0 v1 x y : Option Addr)
    (huu : (binOp .eql 24 (.pointer us) (pt q)).run Yba.prog w = .ok (.bool (decide (us = some ⟨q, 0, none⟩))) w)
    (h0 : w.cell? ⟨l, 0, none⟩ = some (.pointer v0)) (h1 : w.cell? ⟨l, 1, none⟩ = some (.pointer v1)) (h2 : w.cell? ⟨l, 2, none⟩ = some (.pointer us))
    (f0 : w.frozen? ⟨l, 0, none⟩ = false) (f1 : w.frozen? ⟨l, 1, none⟩ = false) (f2 : w.frozen? ⟨l, 2, none⟩ = false)
    (q18 : w.cell? ⟨q, 18, none⟩ = some (pt e)) (g18 : w.frozen? ⟨q, 18, none⟩ = false) 
    (q19 : w.cell? ⟨q, 19, none⟩ = some (pt s)) (g19 : w.frozen? ⟨q, 19, none⟩ = false) 
    (e19 : w.cell? ⟨e, 19, none⟩ = some (.pointer x)) (fe : w.frozen? ⟨e, 19, none⟩ = false) 
    (s18 : w.cell? ⟨s, 18, none⟩ = some (.pointer y)) (fs : w.frozen? ⟨s, 18, none⟩ = false) :
    Calls Yba.prog 6 #[pt l, pt q] w fun e' w' => e' = .returned (.tuple #[]) ∧ ∃ n, w' = (remW l q us (some e) (some s) w).drewN n := by
  by_cases hu : us = some ⟨q, 0, none⟩
  · have hR : remW l q us (some e) (some s) w = ((((w.setCell ⟨l, 2, none⟩ (pt s)).setCell ⟨e, 19, none⟩ (pt s)).setCell ⟨s, 18, none⟩ (pt e)).setCell ⟨q, 18, none⟩ (.pointer none)).setCell ⟨q, 19, none⟩ (.pointer none) := by simp [remW, hu]
    rw [hR]
    rw [show decide (us = some ⟨q, 0, none⟩) = true by simp [hu]] at huu
    clear hu hR
    go_enter Yba.func6, Yba.ntmps6
    go_wp2
    go_region
    go_wp2
    go_region
    go_wp2
    go_end0
    exact ⟨rfl, 2, rfl⟩
  · have hR : remW l q us (some e) (some s) w = (((w.setCell ⟨e, 19, none⟩ (pt s)).setCell ⟨s, 18, none⟩ (pt e)).setCell ⟨q, 18, none⟩ (.pointer none)).setCell ⟨q, 19, none⟩ (.pointer none) := by simp [remW, hu]
    rw [hR]
    rw [show decide (us = some ⟨q, 0, none⟩) = false by simp [hu]] at huu
    clear hu hR
    go_enter Yba.func6, Yba.ntmps6
    go_wp2
    go_region
    go_wp2
    go_region
    go_wp2
    go_end0
    exact ⟨rfl, 2, rfl⟩

set_option maxRecDepth 100000 in
set_option maxHeartbeats 1000000 in
theorem rem_10 (l q e : Nat) (us : Option Addr) (w : World) (hlq : l ≠ q) (hle : l ≠ e) (hqe : q ≠ e) (v0 v1 x y : Option Addr)
    (huu : (binOp .eql 24 (.pointer us) (pt q)).run Yba.prog w = .ok (.bool (decide (us = some ⟨q, 0, none⟩))) w)
    (h0 : w.cell? ⟨l, 0, none⟩ = some (.pointer v0)) (h1 : w.cell? ⟨l, 1, none⟩ = some (.pointer v1)) (h2 : w.cell? ⟨l, 2, none⟩ = some (.pointer us))
    (f0 : w.frozen? ⟨l, 0, none⟩ = false) (f1 : w.frozen? ⟨l, 1, none⟩ = false) (f2 : w.frozen? ⟨l, 2, none⟩ = false)
    (q18 : w.cell? ⟨q, 18, none⟩ = some (pt e)) (g18 : w.frozen? ⟨q, 18, none⟩ = false)
    (q19 : w.cell? ⟨q, 19, none⟩ = some (.pointer none)) (g19 : w.frozen? ⟨q, 19, none⟩ = false)
    (e19 : w.cell? ⟨e, 19, none⟩ = some (.pointer x)) (fe : w.frozen? ⟨e, 19, none⟩ = false) :
    Calls Yba.prog 6 #[pt l, pt q] w fun e' w' => e' = .returned (.tuple #[]) ∧ ∃ n, w' = (remW l q us (some e) none w).drewN n := by
  by_cases hu : us = some ⟨q, 0, none⟩
  · have hR : remW l q us (some e) none w = ((((w.setCell ⟨l, 2, none⟩ (.pointer none)).setCell ⟨e, 19, none⟩ (.pointer none)).setCell ⟨l, 1, none⟩ (pt e)).setCell ⟨q, 18, none⟩ (.pointer none)).setCell ⟨q, 19, none⟩ (.pointer none) := by simp [remW, hu]
    rw [hR]
    rw [show decide (us = some ⟨q, 0, none⟩) = true by simp [hu]] at huu
    clear hu hR
    go_enter Yba.func6, Yba.ntmps6
    go_wp2
    go_region
    go_wp2
    go_end0
    exact ⟨rfl, 1, rfl⟩
  · have hR : remW l q us (some e) none w = (((w.setCell ⟨e, 19, none⟩ (.pointer none)).setCell ⟨l, 1, none⟩ (pt e)).setCell ⟨q, 18, none⟩ (.pointer none)).setCell ⟨q, 19, none⟩ (.pointer none) := by simp [remW, hu]
    rw [hR]
    rw [show decide (us = some ⟨q, 0, none⟩) = false by simp [hu]] at huu
    clear hu hR
    go_enter Yba.func6, Yba.ntmps6
    go_wp2
    go_region
    go_wp2
    go_end0
    exact ⟨rfl, 1, rfl⟩

set_option maxRecDepth 100000 in
set_option maxHeartbeats 1000000 in
theorem rem_01 (l q s : Nat) (us : Option Addr) (w : World) (hlq : l ≠ q) (hls : l ≠ s) (hqs : q ≠ s) (v0 v1 x y : Option Addr)
    (huu : (binOp .eql 24 (.pointer us) (pt q)).run Yba.prog w = .ok (.bool (decide (us = some ⟨q, 0, none⟩))) w)
    (h0 : w.cell? ⟨l, 0, none⟩ = some (.pointer v0)) (h1 : w.cell? ⟨l, 1, none⟩ = some (.pointer v1)) (h2 : w.cell? ⟨l, 2, none⟩ = some (.pointer us))
    (f0 : w.frozen? ⟨l, 0, none⟩ = false) (f1 : w.frozen? ⟨l, 1, none⟩ = false) (f2 : w.frozen? ⟨l, 2, none⟩ = false)
    (q18 : w.cell? ⟨q, 18, none⟩ = some (.pointer none)) (g18 : w.frozen? ⟨q, 18, none⟩ = false)
    (q19 : w.cell? ⟨q, 19, none⟩ = some (pt s)) (g19 : w.frozen? ⟨q, 19, none⟩ = false)
    (s18 : w.cell? ⟨s, 18, none⟩ = some (.pointer y)) (fs : w.frozen? ⟨s, 18, none⟩ = false) :
    Calls Yba.prog 6 #[pt l, pt q] w fun e' w' => e' = .returned (.tuple #[]) ∧ ∃ n, w' = (remW l q us none (some s) w).drewN n := by
  by_cases hu : us = some ⟨q, 0, none⟩
  · have hR : remW l q us none (some s) w = ((((w.setCell ⟨l, 2, none⟩ (pt s)).setCell ⟨l, 0, none⟩ (pt s)).setCell ⟨s, 18, none⟩ (.pointer none)).setCell ⟨q, 18, none⟩ (.pointer none)).setCell ⟨q, 19, none⟩ (.pointer none) := by simp [remW, hu]
    rw [hR]
    rw [show decide (us = some ⟨q, 0, none⟩) = true by simp [hu]] at huu
    clear hu hR
    go_enter Yba.func6, Yba.ntmps6
    go_wp2
    go_region
    go_wp2
    go_end0
    exact ⟨rfl, 1, rfl⟩
  · have hR : remW l q us none (some s) w = (((w.setCell ⟨l, 0, none⟩ (pt s)).setCell ⟨s, 18, none⟩ (.pointer none)).setCell ⟨q, 18, none⟩ (.pointer none)).setCell ⟨q, 19, none⟩ (.pointer none) := by simp [remW, hu]
    rw [hR]
    rw [show decide (us = some ⟨q, 0, none⟩) = false by simp [hu]] at huu
    clear hu hR
    go_enter Yba.func6, Yba.ntmps6
    go_wp2
    go_region
    go_wp2
    go_end0
    exact ⟨rfl, 1, rfl⟩

/-- 'remove', whatever lies beside the request that goes. -/
theorem rem_any (l q : Nat) (e s : Option Nat) (us v0 v1 : Option Addr) (fl fq : Nat → Value) (w : World) (hlq : l ≠ q)
    (hl : w.rowIs l 26 3 fl) (hq : w.rowIs q 33 20 fq) (hus : Lies w us) (l0 : fl 0 = .pointer v0) (l1 : fl 1 = .pointer v1) (l2 : fl 2 = .pointer us)
    (q18 : fq 18 = .pointer (e.map fun b => ⟨b, 0, none⟩)) (q19 : fq 19 = .pointer (s.map fun b => ⟨b, 0, none⟩))
    (he : ∀ b, e = some b → l ≠ b ∧ q ≠ b ∧ ∃ f x, w.rowIs b 33 20 f ∧ f 19 = .pointer x)
    (hs : ∀ b, s = some b → l ≠ b ∧ q ≠ b ∧ ∃ f x, w.rowIs b 33 20 f ∧ f 18 = .pointer x)
    (hes : ∀ a b, e = some a → s = some b → a ≠ b) :
    Calls Yba.prog 6 #[pt l, pt q] w fun e' w' => e' = .returned (.tuple #[]) ∧ ∃ n, w' = (remW l q us e s w).drewN n := by
  have huu := eql_ptr hus (Lies.row hq)
  have h0 := hl.cell (i := 0) (by omega)
  have h1 := hl.cell (i := 1) (by omega)
  have h2 := hl.cell (i := 2) (by omega)
  have g18 := hq.cell (i := 18) (by omega)
  have g19 := hq.cell (i := 19) (by omega)
  rw [l0] at h0
  rw [l1] at h1
  rw [l2] at h2
  rw [q18] at g18
  rw [q19] at g19
  cases e with
  | none =>
    cases s with
    | none => exact rem_00 l q us w hlq v0 v1 huu h0 h1 h2 (hl.frozen _) (hl.frozen _) (hl.frozen _) g18 (hq.frozen _) g19 (hq.frozen _)
    | some s =>
      obtain ⟨a1, a2, f, y, hf, hy⟩ := hs s rfl
      have c := hf.cell (i := 18) (by omega)
      rw [hy] at c
      exact rem_01 l q s us w hlq a1 a2 v0 v1 none y huu h0 h1 h2 (hl.frozen _) (hl.frozen _) (hl.frozen _) g18 (hq.frozen _) g19 (hq.frozen _) c (hf.frozen _)
  | some e =>
    obtain ⟨a1, a2, f, x, hf, hx⟩ := he e rfl
    have c := hf.cell (i := 19) (by omega)
    rw [hx] at c
    cases s with
    | none => exact rem_10 l q e us w hlq a1 a2 v0 v1 x none huu h0 h1 h2 (hl.frozen _) (hl.frozen _) (hl.frozen _) g18 (hq.frozen _) g19 (hq.frozen _) c (hf.frozen _)
    | some s =>
      obtain ⟨b1, b2, f', y, hf', hy⟩ := hs s rfl
      have c' := hf'.cell (i := 18) (by omega)
      rw [hy] at c'
      exact rem_11 l q e s us w hlq a1 b1 a2 b2 (hes e s rfl rfl) v0 v1 x y huu h0 h1 h2 (hl.frozen _) (hl.frozen _) (hl.frozen _) g18 (hq.frozen _) g19 (hq.frozen _) c (hf.frozen _) c' (hf'.frozen _)
end Go.Proofs.Ybulkdkve.lawS5594AWhole

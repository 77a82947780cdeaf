import Derived.Test.YbulkdkveAStep
import Derived.Test.YbulkdkveARem
import Derived.WalkSmall
namespace Go.Proofs.Ybulkdkve.lawS5594AWhole
open Go.RowKit Go.Deep
set_option linter.unusedVariables false
set_option linter.unusedSimpArgs false

/-- The list behind the law's choice of 'unseen'. -/
structure Mid (B n : Nat) (us : Option Addr) (w wr : World) : Prop where
  reqs : wr.rowIs B 24 n (fun i => pt (B + 2 + i))
  l : wr.rowIs (B + 1) 26 3 (fun i => if i = 2 then .pointer us else lrow B n i)
  req : ∀ j, j < n → wr.rowIs (B + 2 + j) 33 20 (rq j (ahead B j) (behind B n j))
  size : B + 2 + n ≤ wr.heap.size
  bel : Below B w wr

theorem St.mid {B n : Nat} {w wr : World} (h : St B n n w wr) (us : Option Addr) : Mid B n us w (wr.setCell ⟨B + 1, 2, none⟩ (.pointer us)) := by
  refine ⟨(h.reqs.setOther (by simp) _).congr fun i hi => by simp [hi], h.l.set 2 _, fun j hj => (h.req j hj).setOther (by simp <;> omega) _, by have := h.size; simp [World.setCell]; omega, h.bel.setCell (by simp) _⟩

/-- More memory behind it turns nothing. -/
theorem Mid.later {B n : Nat} {us : Option Addr} {w wr w' : World} (h : Mid B n us w wr) (hb : Below (B + 2 + n) wr w') : Mid B n us w w' :=
  ⟨h.reqs.of_block (hb.block _ (by omega)), h.l.of_block (hb.block _ (by omega)), fun j hj => (h.req j hj).of_block (hb.block _ (by omega)), Nat.le_trans h.size hb.size, h.bel.trans (hb.mono (by omega))⟩

/-- Of all places but 'pos', the t-th. -/
def sk (pos t : Nat) : Nat := if t < pos then t else t + 1
/-- The t-th of what is left, as a pointer; none behind the last. -/
def nth (B n pos t : Nat) : Option Addr := if t + 1 < n then some ⟨B + 2 + sk pos t, 0, none⟩ else none
def prv (B n pos t : Nat) : Option Addr := if t = 0 then none else some ⟨B + 2 + sk pos (t - 1), 0, none⟩

/-- What 'unseen' must hold behind the call. -/
def want (B n pos : Nat) (us : Option Addr) : Option Addr := if us = some ⟨B + 2 + pos, 0, none⟩ then behind B n pos else us

def lfin (B n pos : Nat) (us : Option Addr) (i : Nat) : Value := if i = 2 then .pointer (want B n pos us) else if i = 1 then .pointer (prv B n pos (n - 1)) else .pointer (nth B n pos 0)

structure Fin (B n pos : Nat) (us : Option Addr) (w wr : World) : Prop where
  reqs : wr.rowIs B 24 n (fun i => pt (B + 2 + i))
  l : wr.rowIs (B + 1) 26 3 (lfin B n pos us)
  gone : wr.rowIs (B + 2 + pos) 33 20 (rq pos none none)
  req : ∀ t, t + 1 < n → wr.rowIs (B + 2 + sk pos t) 33 20 (rq (sk pos t) (prv B n pos t) (nth B n pos (t + 1)))
  bel : Below B w wr

theorem Fin.drewN {B n pos : Nat} {us : Option Addr} {w wr : World} (h : Fin B n pos us w wr) (d : Nat) : Fin B n pos us w (wr.drewN d) :=
  ⟨h.reqs, h.l, h.gone, h.req, below_drewN h.bel d⟩

def eOf (B pos : Nat) : Option Nat := if pos = 0 then none else some (B + 2 + (pos - 1))
def sOf (B n pos : Nat) : Option Nat := if pos + 1 < n then some (B + 2 + (pos + 1)) else none

theorem rq_set18 (j : Nat) (e s u : Option Addr) (i : Nat) : (if i = 18 then .pointer u else rq j e s i) = rq j u s i := by
  by_cases h : i = 18 <;> simp [rq, h]
theorem rq_set19 (j : Nat) (e s u : Option Addr) (i : Nat) : (if i = 19 then .pointer u else rq j e s i) = rq j e u i := by
  by_cases h : i = 19 <;> simp [rq, h]

set_option maxHeartbeats 4000000 in
theorem rem_fin {B n pos : Nat} {us : Option Addr} {w wr : World} (h : Mid B n us w wr) (hp : pos < n) (d : Nat) :
    Fin B n pos us w ((remW (B + 1) (B + 2 + pos) us (eOf B pos) (sOf B n pos) wr).drewN d) := by
  have hs : (sOf B n pos).map (fun b => (⟨b, 0, none⟩ : Addr)) = behind B n pos := by unfold sOf behind; split <;> rfl
  have he : (eOf B pos).map (fun b => (⟨b, 0, none⟩ : Addr)) = ahead B pos := by unfold eOf ahead; split <;> rfl
  refine Fin.drewN ?_ d
  unfold remW
  simp only [hs, he]
  -- 'unseen'
  obtain ⟨w1, hw1, l1, o1, b1⟩ : ∃ w1, (if us = some ⟨B + 2 + pos, 0, none⟩ then wr.setCell ⟨B + 1, 2, none⟩ (.pointer (behind B n pos)) else wr) = w1 ∧
      w1.rowIs (B + 1) 26 3 (fun i => if i = 2 then .pointer (want B n pos us) else lrow B n i) ∧ (∀ b t m f, b ≠ B + 1 → wr.rowIs b t m f → w1.rowIs b t m f) ∧ Below B w w1 := by
    by_cases hu : us = some ⟨B + 2 + pos, 0, none⟩
    · refine ⟨_, rfl, ?_, ?_, ?_⟩
      · rw [if_pos hu]
        refine (h.l.set 2 _).congr fun i hi => ?_
        by_cases e : i = 2
        · simp [e, want, hu]
        · simp [e]
      · rw [if_pos hu]
        exact fun b t m f hb hr => hr.setOther (by simpa using hb) _
      · rw [if_pos hu]
        exact h.bel.setCell (by simp) _
    · refine ⟨_, rfl, ?_, ?_, ?_⟩
      · rw [if_neg hu]
        refine h.l.congr fun i hi => ?_
        simp [want, hu]
      · rw [if_neg hu]
        exact fun b t m f hb hr => hr
      · rw [if_neg hu]
        exact h.bel
  rw [hw1]
  have r1 := o1 _ _ _ _ (by omega) h.reqs
  have q1 : ∀ j, j < n → w1.rowIs (B + 2 + j) 33 20 (rq j (ahead B j) (behind B n j)) := fun j hj => o1 _ _ _ _ (by omega) (h.req j hj)
  clear hw1 o1 h
  by_cases e0 : pos = 0
  · have eE : eOf B pos = none := by simp [eOf, e0]
    have eA : ahead B pos = none := by simp [ahead, e0]
    by_cases s0 : pos + 1 < n
    · have sE : sOf B n pos = some (B + 2 + (pos + 1)) := by simp [sOf, s0]
      have sB : behind B n pos = some ⟨B + 2 + (pos + 1), 0, none⟩ := by simp [behind, s0]
      rw [eE, sE, eA, sB]
      simp only
      refine ⟨?_, ?_, ?_, ?_, ?_⟩
      · exact ((((r1.setOther (by simp) _).setOther (by simp <;> omega) _).setOther (by simp <;> omega) _).setOther (by simp <;> omega) _)
      · refine ((((l1.set 0 _).setOther (by simp <;> omega) _).setOther (by simp <;> omega) _).setOther (by simp <;> omega) _).congr fun i hi => ?_
        match i, hi with
        | 0, _ => simp [lfin, nth, sk, e0, show 1 < n by omega]
        | 1, _ => simp [lfin, lrow, prv, sk, show ¬ n = 0 by omega, show ¬ n - 1 = 0 by omega, e0] <;> omega
        | 2, _ => simp [lfin]
      · refine (((((q1 pos hp).setOther (by simp <;> omega) _).setOther (by simp <;> omega) _).set 18 _).set 19 _).congr fun i hi => ?_
        rw [rq_set18, rq_set19]
      · intro t ht
        by_cases t0 : t = 0
        · subst t0
          have e1 : sk pos 0 = pos + 1 := by simp [sk, e0]
          rw [e1]
          refine (((((q1 (pos + 1) (by omega)).setOther (by simp <;> omega) _).set 18 _).setOther (by simp <;> omega) _).setOther (by simp <;> omega) _).congr fun i hi => ?_
          rw [rq_set18]
          simp [prv, behind, nth, sk, e0]
        · have e1 : sk pos t = t + 1 := by simp [sk, e0]
          rw [e1]
          refine (((((q1 (t + 1) (by omega)).setOther (by simp <;> omega) _).setOther (by simp <;> omega) _).setOther (by simp <;> omega) _).setOther (by simp <;> omega) _).congr fun i hi => ?_
          simp [prv, behind, ahead, nth, sk, e0, t0, show t - 1 + 1 = t by omega]
      · exact ((((b1.setCell (by simp) _).setCell (by simp <;> omega) _).setCell (by simp <;> omega) _).setCell (by simp <;> omega) _)
    · have hn1 : n = 1 := by omega
      have sE : sOf B n pos = none := by simp [sOf, s0]
      have sB : behind B n pos = none := by simp [behind, s0]
      rw [eE, sE, eA, sB]
      simp only
      refine ⟨?_, ?_, ?_, ?_, ?_⟩
      · exact ((((r1.setOther (by simp) _).setOther (by simp <;> omega) _).setOther (by simp <;> omega) _).setOther (by simp <;> omega) _)
      · refine ((((l1.set 0 _).set 1 _).setOther (by simp <;> omega) _).setOther (by simp <;> omega) _).congr fun i hi => ?_
        match i, hi with
        | 0, _ => simp [lfin, nth, hn1]
        | 1, _ => simp [lfin, prv, hn1]
        | 2, _ => simp [lfin]
      · refine (((((q1 pos hp).setOther (by simp <;> omega) _).setOther (by simp <;> omega) _).set 18 _).set 19 _).congr fun i hi => ?_
        rw [rq_set18, rq_set19]
      · intro t ht
        omega
      · exact ((((b1.setCell (by simp) _).setCell (by simp <;> omega) _).setCell (by simp <;> omega) _).setCell (by simp <;> omega) _)
  · have eE : eOf B pos = some (B + 2 + (pos - 1)) := by simp [eOf, e0]
    have eA : ahead B pos = some ⟨B + 2 + (pos - 1), 0, none⟩ := by simp [ahead, e0]
    by_cases s0 : pos + 1 < n
    · have sE : sOf B n pos = some (B + 2 + (pos + 1)) := by simp [sOf, s0]
      have sB : behind B n pos = some ⟨B + 2 + (pos + 1), 0, none⟩ := by simp [behind, s0]
      rw [eE, sE, eA, sB]
      simp only
      refine ⟨?_, ?_, ?_, ?_, ?_⟩
      · exact ((((r1.setOther (by simp <;> omega) _).setOther (by simp <;> omega) _).setOther (by simp <;> omega) _).setOther (by simp <;> omega) _)
      · refine ((((l1.setOther (by simp <;> omega) _).setOther (by simp <;> omega) _).setOther (by simp <;> omega) _).setOther (by simp <;> omega) _).congr fun i hi => ?_
        match i, hi with
        | 0, _ => simp [lfin, lrow, nth, sk, show 1 < n by omega, show ¬ n = 0 by omega, show 0 < pos by omega]
        | 1, _ => simp [lfin, lrow, prv, sk, show ¬ n = 0 by omega, show ¬ n - 1 = 0 by omega, show ¬ n - 1 - 1 < pos by omega] <;> omega
        | 2, _ => simp [lfin]
      · refine (((((q1 pos hp).setOther (by simp <;> omega) _).setOther (by simp <;> omega) _).set 18 _).set 19 _).congr fun i hi => ?_
        rw [rq_set18, rq_set19]
      · intro t ht
        by_cases t1 : t + 1 < pos
        · have e1 : sk pos t = t := by simp [sk]; omega
          rw [e1]
          refine (((((q1 t (by omega)).setOther (by simp <;> omega) _).setOther (by simp <;> omega) _).setOther (by simp <;> omega) _).setOther (by simp <;> omega) _).congr fun i hi => ?_
          simp [prv, behind, ahead, nth, sk, t1, show t - 1 < pos by omega, show t + 1 + 1 < n by omega, show t + 1 < n by omega]
        · by_cases t2 : t + 1 = pos
          · have e1 : sk pos t = t := by simp [sk]; omega
            rw [e1, show pos - 1 = t by omega]
            refine (((((q1 t (by omega)).set 19 _).setOther (by simp <;> omega) _).setOther (by simp <;> omega) _).setOther (by simp <;> omega) _).congr fun i hi => ?_
            rw [rq_set19]
            simp [prv, ahead, nth, sk, t1, t2, show t - 1 < pos by omega, s0]
          · by_cases t3 : t = pos
            · have e1 : sk pos t = pos + 1 := by simp [sk, t3]
              rw [e1]
              refine (((((q1 (pos + 1) (by omega)).setOther (by simp <;> omega) _).set 18 _).setOther (by simp <;> omega) _).setOther (by simp <;> omega) _).congr fun i hi => ?_
              rw [rq_set18]
              simp [prv, behind, nth, sk, t3, e0, show pos - 1 < pos by omega, show ¬ pos + 1 < pos by omega]
            · have e1 : sk pos t = t + 1 := by simp [sk]; omega
              rw [e1]
              refine (((((q1 (t + 1) (by omega)).setOther (by simp <;> omega) _).setOther (by simp <;> omega) _).setOther (by simp <;> omega) _).setOther (by simp <;> omega) _).congr fun i hi => ?_
              simp [prv, behind, ahead, nth, sk, show ¬ t = 0 by omega, show ¬ t - 1 < pos by omega, show ¬ t + 1 < pos by omega, show t - 1 + 1 = t by omega]
      · exact ((((b1.setCell (by simp <;> omega) _).setCell (by simp <;> omega) _).setCell (by simp <;> omega) _).setCell (by simp <;> omega) _)
    · have hn1 : n = pos + 1 := by omega
      have sE : sOf B n pos = none := by simp [sOf, s0]
      have sB : behind B n pos = none := by simp [behind, s0]
      rw [eE, sE, eA, sB]
      simp only
      refine ⟨?_, ?_, ?_, ?_, ?_⟩
      · exact ((((r1.setOther (by simp <;> omega) _).setOther (by simp <;> omega) _).setOther (by simp <;> omega) _).setOther (by simp <;> omega) _)
      · refine ((((l1.setOther (by simp <;> omega) _).set 1 _).setOther (by simp <;> omega) _).setOther (by simp <;> omega) _).congr fun i hi => ?_
        match i, hi with
        | 0, _ => simp [lfin, lrow, nth, sk, hn1, show 0 < pos by omega]
        | 1, _ => simp [lfin, prv, sk, hn1, e0, show pos - 1 < pos by omega]
        | 2, _ => simp [lfin]
      · refine (((((q1 pos hp).setOther (by simp <;> omega) _).setOther (by simp <;> omega) _).set 18 _).set 19 _).congr fun i hi => ?_
        rw [rq_set18, rq_set19]
      · intro t ht
        have e1 : sk pos t = t := by simp [sk]; omega
        rw [e1]
        by_cases t2 : t + 1 = pos
        · rw [show pos - 1 = t by omega]
          refine (((((q1 t (by omega)).set 19 _).setOther (by simp <;> omega) _).setOther (by simp <;> omega) _).setOther (by simp <;> omega) _).congr fun i hi => ?_
          rw [rq_set19]
          simp [prv, ahead, nth, sk, show t - 1 < pos by omega, show ¬ t + 1 + 1 < n by omega]
        · refine (((((q1 t (by omega)).setOther (by simp <;> omega) _).setOther (by simp <;> omega) _).setOther (by simp <;> omega) _).setOther (by simp <;> omega) _).congr fun i hi => ?_
          simp [prv, behind, ahead, nth, sk, show t + 1 < pos by omega, show t - 1 < pos by omega, show t + 1 + 1 < n by omega, show t + 1 < n by omega]
      · exact ((((b1.setCell (by simp <;> omega) _).setCell (by simp <;> omega) _).setCell (by simp <;> omega) _).setCell (by simp <;> omega) _)


theorem sk_cover {n pos i : Nat} (hp : pos < n) (hi : i < n) (h : i ≠ pos) : ∃ t, t + 1 < n ∧ sk pos t = i := by
  by_cases e : i < pos
  · exact ⟨i, by omega, by simp [sk, e]⟩
  · exact ⟨i - 1, by omega, by simp [sk, show ¬ i - 1 < pos by omega]; omega⟩

theorem Fin.order {B n pos : Nat} {us : Option Addr} {w wr : World} (h : Fin B n pos us w wr) (hp : pos < n) {i : Nat} (hi : i < n) : wr.cell? ⟨B + 2 + i, 17, none⟩ = some (.int .u64 i) := by
  by_cases e : i = pos
  · subst e
    exact h.gone.cell (i := 17) (by omega)
  · obtain ⟨t, ht, rfl⟩ := sk_cover hp hi e
    exact (h.req t ht).cell (i := 17) (by omega)

theorem Fin.lies {B n pos : Nat} {us : Option Addr} {w wr : World} (h : Fin B n pos us w wr) (hp : pos < n) {i : Nat} (hi : i < n) : Lies wr (some ⟨B + 2 + i, 0, none⟩) := by
  by_cases e : i = pos
  · subst e
    exact Lies.row h.gone
  · obtain ⟨t, ht, rfl⟩ := sk_cover hp hi e
    exact Lies.row (h.req t ht)

/-- A comparison of a pointer with itself. -/
theorem neq_self {w : World} {u : Option Addr} (h : Lies w u) : (binOp .neq 24 (.pointer u) (.pointer u)).run Yba.prog w = .ok (.bool false) w := by
  rw [neq_ptr h h]; simp

theorem remW_owns {l q E : Nat} {us : Option Addr} {e s : Option Nat} {wr : World} {v : Value} {n : Nat} {xs : List Value} (h : wr.ownsRow E 24 1 v n xs) (hl : l < E) (hq : q < E) (he : ∀ b, e = some b → b < E) (hs : ∀ b, s = some b → b < E) (d : Nat) :
    ((remW l q us e s wr).drewN d).ownsRow E 24 1 v n xs := by
  show (remW l q us e s wr).ownsRow E 24 1 v n xs
  unfold remW
  simp only
  refine ownsRow_setCell_below (ownsRow_setCell_below ?_ (by simpa using hq) _) (by simpa using hq) _
  have h1 : (if us = some ⟨q, 0, none⟩ then wr.setCell ⟨l, 2, none⟩ (.pointer (s.map fun b => ⟨b, 0, none⟩)) else wr).ownsRow E 24 1 v n xs := by
    split
    · exact ownsRow_setCell_below h (by simpa using hl) _
    · exact h
  generalize (if us = some ⟨q, 0, none⟩ then wr.setCell ⟨l, 2, none⟩ (.pointer (s.map fun b => ⟨b, 0, none⟩)) else wr) = w1 at *
  cases e with
  | none =>
    cases s with
    | none => exact ownsRow_setCell_below (ownsRow_setCell_below h1 (by simpa using hl) _) (by simpa using hl) _
    | some b => exact ownsRow_setCell_below (ownsRow_setCell_below h1 (by simpa using hl) _) (by simpa using hs b rfl) _
  | some a =>
    cases s with
    | none => exact ownsRow_setCell_below (ownsRow_setCell_below h1 (by simpa using he a rfl) _) (by simpa using hl) _
    | some b => exact ownsRow_setCell_below (ownsRow_setCell_below h1 (by simpa using he a rfl) _) (by simpa using hs b rfl) _

theorem Mid.lies {B n : Nat} {us : Option Addr} {w wr : World} (h : Mid B n us w wr) {i : Nat} (hi : i < n) : Lies wr (some ⟨B + 2 + i, 0, none⟩) := Lies.row (h.req i hi)

/-- 'remove' at place pos of the n. -/
theorem rem_call {B n pos E : Nat} {us : Option Addr} {w wr : World} {v : Value} {m : Nat} {xs : List Value} (h : Mid B n us w wr) (hp : pos < n) (hus : Lies wr us) (hE : B + 2 + n ≤ E) (hown : wr.ownsRow E 24 1 v m xs) :
    Calls Yba.prog 6 #[pt (B + 1), pt (B + 2 + pos)] wr fun e w' => e = .returned (.tuple #[]) ∧ Fin B n pos us w w' ∧ w'.ownsRow E 24 1 v m xs := by
  have hsm : (sOf B n pos).map (fun b => (⟨b, 0, none⟩ : Addr)) = behind B n pos := by unfold sOf behind; split <;> rfl
  have hem : (eOf B pos).map (fun b => (⟨b, 0, none⟩ : Addr)) = ahead B pos := by unfold eOf ahead; split <;> rfl
  refine (rem_any (B + 1) (B + 2 + pos) (eOf B pos) (sOf B n pos) us (some ⟨B + 2, 0, none⟩) (some ⟨B + 2 + (n - 1), 0, none⟩) _ _ wr (by omega) h.l (h.req pos hp) hus
    (by simp [lrow]; omega) (by simp [lrow]; omega) (by simp) (by rw [hem]; simp [rq]) (by rw [hsm]; simp [rq]) ?_ ?_ ?_).mono ?_
  · intro b hb
    simp only [eOf] at hb
    split at hb
    · cases hb
    · injection hb with hb
      subst hb
      exact ⟨by omega, by omega, _, _, h.req (pos - 1) (by omega), by simp [rq]; rfl⟩
  · intro b hb
    simp only [sOf] at hb
    split at hb
    · injection hb with hb
      subst hb
      exact ⟨by omega, by omega, _, _, h.req (pos + 1) (by omega), by simp [rq]; rfl⟩
    · cases hb
  · intro a b ha hb
    simp only [sOf, eOf] at ha hb
    split at ha
    · cases ha
    · split at hb
      · injection ha with ha
        injection hb with hb
        omega
      · cases hb
  · rintro e w' ⟨rfl, d, rfl⟩
    refine ⟨rfl, rem_fin h hp d, remW_owns hown (by omega) (by omega) ?_ ?_ d⟩
    · intro b hb
      simp only [eOf] at hb
      split at hb
      · cases hb
      · injection hb with hb
        omega
    · intro b hb
      simp only [sOf] at hb
      split at hb
      · injection hb with hb
        omega
      · cases hb
end Go.Proofs.Ybulkdkve.lawS5594AWhole

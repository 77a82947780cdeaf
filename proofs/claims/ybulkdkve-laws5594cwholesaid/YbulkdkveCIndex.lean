import Derived.Test.YbulkdkveCParts
namespace Go.Proofs.Ybulkdkve.lawS5594CWhole
open Go.RowKit Go.Deep
set_option linter.unusedVariables false
set_option linter.unusedSimpArgs false

section
variable {B : Nat} {tz rz : Nat → Value} {nm : ByteArray} {hs : List Hd} {ls : List Lk} {hc : Nat → Int} {w : World}

set_option maxRecDepth 100000 in
set_option maxHeartbeats 2000000 in
theorem holderIndex {g n c gl k cl p q : Nat} (h : Sys B tz rz nm (.slice (some ⟨g, 0, none⟩) n c) (.slice (some ⟨gl, 0, none⟩) k cl) hs ls hc w) (hn : hs.length = n) (hk : ls.length = k) (hnb : n ≤ 100001) (hkb : k ≤ 100001)
    (hp : p < n) (hq : q < k) (hqb : (ls[q]'(by omega)).b = B + 3) (hqh : (ls[q]'(by omega)).h = (p : Int)) (hql : ∀ j (hj : j < q), (ls[j]'(by omega)).b ≠ B + 3) (hpb : (hs[p]'(by omega)).b = B + 2) (hpl : ∀ j (hj : j < p), (hs[j]'(by omega)).b ≠ B + 2)
    (hlL : ∀ x ∈ ls, Lies w x.b) (hlH : ∀ x ∈ hs, Lies w x.b) :
    Calls Yba.prog 24 #[pt (B + 3), pt (B + 2)] w fun e w' => e = .returned (.int .i64 p) ∧ Chg [] w w' := by
  have c5 := h.c5
  have c3 := h.c3
  have lT := Lies.row h.t
  have lR := Lies.row h.r
  by_cases hkn : k < n
  · have hd : decide ((k : Int) < (n : Int)) = true := by simp; omega
    go_enter Yba.func24, Yba.ntmps24
    go_wp2_with fail
    go_quiet (fail)
    go_wp2_with fail
    go_loopg [6, 25] k (fun gk s6 i wr => ∃ j : Nat, j ≤ q ∧ j + gk = k ∧ i = .int .i64 j ∧ Chg [] w wr)
    case atStart => exact ⟨0, by omega, by omega, rfl, (Chg.refl [] w).drewN _⟩
    case round =>
      obtain ⟨j, hjq, hjk, rfl, hch⟩ := hrel
      have hS := h.chg hch (by simp) (by simp) (by simp) (by simp)
      obtain ⟨x, hx⟩ : ∃ x, ls[j]'(by omega) = x := ⟨_, rfl⟩
      have d0 := hS.lcell hk (p := j) (by omega) (show 0 < 3 by omega)
      have d1 := hS.lcell hk (p := j) (by omega) (show 1 < 3 by omega)
      have d2 := hS.lcell hk (p := j) (by omega) (show 2 < 3 by omega)
      rw [hx] at d0 d1 d2
      simp only [encL, List.getElem?_cons_zero, List.getElem?_cons_succ, Nat.add_zero] at d0 d1 d2
      have he : ∀ o, (binOp .eql 29 (pt x.b) (pt (B + 3))).run Yba.prog (wr.alloc o) = .ok (.bool (decide (x.b = B + 3))) (wr.alloc o) := fun o =>
        eql29 (Lies.chg (hch.alloc o) (hlL x (by rw [← hx]; exact List.getElem_mem _)) (by simp)) (Lies.chg (hch.alloc o) lR (by simp))
      have hlt : (j : Int) < (k : Int) := by omega
      by_cases hjq' : j = q
      · subst hjq'
        rw [hx] at hqb hqh
        rw [hqb] at he d0
        rw [hqh] at d1
        have he' : ∀ o, (binOp .eql 29 (pt (B + 3)) (pt (B + 3))).run Yba.prog (wr.alloc o) = .ok (.bool true) (wr.alloc o) := fun o => by rw [he o]; simp
        have HX : Hid (Chg [] w wr) := hch
        clear he hx hqb hqh hS hql hpl hpb hlL hlH h
        go_wp2_with fail
        go_ret
        exact ⟨rfl, HX.out.alloc _⟩
      · have hxb := hql j (by omega)
        rw [hx] at hxb
        have he' : ∀ o, (binOp .eql 29 (pt x.b) (pt (B + 3))).run Yba.prog (wr.alloc o) = .ok (.bool false) (wr.alloc o) := fun o => by rw [he o]; simp [hxb]
        have HX : Hid (Chg [] w wr) := hch
        clear he hx hS hxb
        go_wp2_with fail
        go_roundg (gk - 1)
        case rel => exact ⟨j + 1, by omega, by omega, by go_num, HX.out.alloc _⟩
        case measure => omega
  · have hd : decide ((k : Int) < (n : Int)) = false := by simp; omega
    go_enter Yba.func24, Yba.ntmps24
    go_wp2_with fail
    go_quiet (fail)
    go_wp2_with fail
    go_loopg [7, 8, 41] n (fun gk s7 s8 i wr => ∃ j : Nat, j ≤ p ∧ j + gk = n ∧ i = .int .i64 j ∧ Chg [] w wr)
    case atStart => exact ⟨0, by omega, by omega, rfl, (Chg.refl [] w).drewN _⟩
    case round =>
      obtain ⟨j, hjq, hjk, rfl, hch⟩ := hrel
      have hS := h.chg hch (by simp) (by simp) (by simp) (by simp)
      obtain ⟨x, hx⟩ : ∃ x, hs[j]'(by omega) = x := ⟨_, rfl⟩
      have d0 := hS.hcell hn (p := j) (by omega) (show 0 < 4 by omega)
      have d1 := hS.hcell hn (p := j) (by omega) (show 1 < 4 by omega)
      have d2 := hS.hcell hn (p := j) (by omega) (show 2 < 4 by omega)
      have d3 := hS.hcell hn (p := j) (by omega) (show 3 < 4 by omega)
      rw [hx] at d0 d1 d2 d3
      simp only [encH, List.getElem?_cons_zero, List.getElem?_cons_succ, Nat.add_zero] at d0 d1 d2 d3
      have he : ∀ o, (binOp .eql 28 (pt x.b) (pt (B + 2))).run Yba.prog (wr.alloc o) = .ok (.bool (decide (x.b = B + 2))) (wr.alloc o) := fun o =>
        eql28 (Lies.chg (hch.alloc o) (hlH x (by rw [← hx]; exact List.getElem_mem _)) (by simp)) (Lies.chg (hch.alloc o) lT (by simp))
      have hlt : (j : Int) < (n : Int) := by omega
      by_cases hjq' : j = p
      · subst hjq'
        rw [hx] at hpb
        rw [hpb] at he d0
        have he' : ∀ o, (binOp .eql 28 (pt (B + 2)) (pt (B + 2))).run Yba.prog (wr.alloc o) = .ok (.bool true) (wr.alloc o) := fun o => by rw [he o]; simp
        have HX : Hid (Chg [] w wr) := hch
        clear he hx hqb hqh hS hql hpl hpb hlL hlH h
        go_wp2_with fail
        go_ret
        exact ⟨rfl, HX.out.alloc _⟩
      · have hxb := hpl j (by omega)
        rw [hx] at hxb
        have he' : ∀ o, (binOp .eql 28 (pt x.b) (pt (B + 2))).run Yba.prog (wr.alloc o) = .ok (.bool false) (wr.alloc o) := fun o => by rw [he o]; simp [hxb]
        have HX : Hid (Chg [] w wr) := hch
        clear he hx hS hxb
        go_wp2_with fail
        go_roundg (gk - 1)
        case rel => exact ⟨j + 1, by omega, by omega, by go_num, HX.out.alloc _⟩
        case measure => omega
end
end Go.Proofs.Ybulkdkve.lawS5594CWhole

import Derived.Test.YbulkdkvsFind
namespace Go.Proofs.Ybulkdkvs.lawS5595CWhole
open Go.RowKit Go.Deep
set_option linter.unusedVariables false
set_option linter.unusedSimpArgs false

set_option maxRecDepth 100000 in
set_option maxHeartbeats 4000000 in
/-- firstWhere over tablets. -/
theorem whereT (a : Option Addr) (b m c p kb : Nat) (kk : Int) (G : Nat → Nat) (I : Nat → Int) (w : World) (hm : m ≤ 1000000) (hp : p ≤ m) (ha : m = 0 ∨ a = some ⟨b, 0, none⟩)
    (hX : ∀ t, t < m → w.cell? ⟨b, t, none⟩ = some (pt (G t))) (hI : ∀ t, t < m → w.cell? ⟨G t, 6, none⟩ = some (.int .i64 (I t))) (hk : w.cell? ⟨kb, 0, none⟩ = some (.int .i64 kk)) (hth : ∀ t, t < m → (kk ≤ I t ↔ p ≤ t)) :
    Calls Yba.prog 9 #[.slice a m c, .func (.func 4) #[] #[pt kb]] w fun e w' => e = .returned (.int .i64 p) ∧ Chg [] w w' := by
  have H : Hid (∀ o, o = Obj.cells #[.func (.func 4) #[] #[pt kb]] 33 → Calls Yba.prog 12 #[.slice a m c, .agg #[], .func (.func 13) #[] #[pt w.heap.size]] (w.alloc o) fun e w' => e = .returned (.tuple #[.int .i64 p, .bool false]) ∧ Chg [] (w.alloc o) w') := by
    rintro o rfl
    have h1 : Chg [] w (w.alloc (Obj.cells #[.func (.func 4) #[] #[pt kb]] 33)) := (Chg.refl [] w).alloc _
    have h2 := (World.rowIs_alloc w #[.func (.func 4) #[] #[pt kb]] 33 (fun _ => .func (.func 4) #[] #[pt kb]) (by intro i hi; match i, hi with | 0, _ => rfl)).cell (i := 0) (by simp)
    refine searchT a b w.heap.size m c p (fun t => pt (G t)) _ hm hp ha (fun t ht => h1.cell (hX t ht) (by simp)) ?_
    intro w' hch t ht
    have h3 := h1.trans hch
    have := cmpT_at (G t) kb w.heap.size (I t) kk w' (h3.cell (hI t ht) (by simp)) (h3.cell hk (by simp)) (hch.cell h2 (by simp))
    simpa only [hth t ht] using this
  clear hX hI hk hth ha
  go_enter Yba.func9, Yba.ntmps9
  go_wp2_with fail
  refine (H.out _ rfl).mono ?_
  rintro e w' ⟨rfl, hch⟩
  go_wp2_with fail
  go_ret
  exact ⟨rfl, ((Chg.refl [] w).alloc _).trans hch⟩

set_option maxRecDepth 100000 in
set_option maxHeartbeats 4000000 in
/-- 'ok' at a chunk's last tablet. -/
theorem last_at (b m c fb kb g : Nat) (i kk : Int) (w : World) (hm : 0 < m) (hm2 : m ≤ 1000000) (hf : w.cell? ⟨fb, 0, none⟩ = some (.func (.func 4) #[] #[pt kb])) (hk : w.cell? ⟨kb, 0, none⟩ = some (.int .i64 kk)) (hX : w.cell? ⟨b, m - 1, none⟩ = some (pt g)) (hI : w.cell? ⟨g, 6, none⟩ = some (.int .i64 i)) :
    Calls Yba.prog 8 #[.slice (some ⟨b, 0, none⟩) m c, pt fb] w fun e w' => e = .returned (.bool (decide (kk ≤ i))) ∧ Chg [] w w' := by
  have hc : ∀ W, Chg [] w W → Calls Yba.prog 4 #[pt g, pt kb] W fun e w' => e = .returned (.bool (decide (kk ≤ i))) ∧ Chg [] W w' := fun W h => ok_at g kb i kk W (h.cell hI (by simp)) (h.cell hk (by simp))
  have hcast : ((m : Int) - 1) = ((m - 1 : Nat) : Int) := by omega
  have hlt : m - 1 < m := by omega
  have hw : IntKind.i64.wrap ((m : Int) - 1) = ((m - 1 : Nat) : Int) := by rw [IntKind.wrap_i64]; omega
  have hlti : ((m - 1 : Nat) : Int) < (m : Int) := by omega
  have hwq : IntKind.i64.wrap ((m - 1 : Nat) : Int) = ((m - 1 : Nat) : Int) := by rw [IntKind.wrap_i64]; omega
  have hq0 : (0 : Int) ≤ ((m - 1 : Nat) : Int) := by omega
  generalize m - 1 = q at *
  clear hcast
  go_enter Yba.func8, Yba.ntmps8
  go_upto_region 1 with fail
  go_region_held3 (fun w' => w'.cell? ⟨b, q, none⟩ = some (pt g) ∧ w'.cell? ⟨fb, 0, none⟩ = some (.func (.func 4) #[] #[pt kb])) (first | exact ⟨hX, hf⟩ | exact ⟨hch2.cell (a := ⟨b, q, none⟩) hX (by simp), hch2.cell (a := ⟨fb, 0, none⟩) hf (by simp)⟩) (first | (go_at_call 4; refine (hc _ ((Chg.refl [] w).drew)).mono ?_; rintro e w' ⟨rfl, hch2⟩))
  go_wp2_with fail
  go_ret
  exact ⟨rfl, ((Chg.refl [] w).drew).trans hch2⟩

/-- cmp at a chunk. -/
theorem cmpC_at (b m c fb fb2 kb g : Nat) (i kk : Int) (w : World) (hm : 0 < m) (hm2 : m ≤ 1000000) (hf2 : w.cell? ⟨fb2, 0, none⟩ = some (.func (.func 8) #[] #[pt fb])) (hf : w.cell? ⟨fb, 0, none⟩ = some (.func (.func 4) #[] #[pt kb])) (hk : w.cell? ⟨kb, 0, none⟩ = some (.int .i64 kk)) (hX : w.cell? ⟨b, m - 1, none⟩ = some (pt g)) (hI : w.cell? ⟨g, 6, none⟩ = some (.int .i64 i)) :
    Calls Yba.prog 11 #[.slice (some ⟨b, 0, none⟩) m c, .agg #[], pt fb2] w fun e w' => e = .returned (.int .i64 (if kk ≤ i then 1 else -1)) ∧ Chg [] w w' := by
  have h2a : ∀ o, (w.alloc o).cell? ⟨fb2, 0, none⟩ = some (.func (.func 8) #[] #[pt fb]) := fun o => ((Chg.refl [] w).alloc o).cell hf2 (by simp)
  have hc : Hid (∀ W, Chg [] w W → Calls Yba.prog 8 #[.slice (some ⟨b, 0, none⟩) m c, pt fb] W fun e w' => e = .returned (.bool (decide (kk ≤ i))) ∧ Chg [] W w') := fun W h => last_at b m c fb kb g i kk W hm hm2 (h.cell hf (by simp)) (h.cell hk (by simp)) (h.cell hX (by simp)) (h.cell hI (by simp))
  clear hf2 hf hk hX hI hm hm2
  by_cases hki : kk ≤ i
  all_goals
    go_enter Yba.func11, Yba.ntmps11
    go_wp2_with fail
    refine (hc.out _ ((Chg.refl [] w).alloc _)).mono ?_
    rintro e w' ⟨rfl, hch⟩
    go_wp2_with fail
    go_ret
    exact ⟨by simp [hki], ((Chg.refl [] w).alloc _).trans hch⟩

set_option maxRecDepth 100000 in
set_option maxHeartbeats 4000000 in
/-- firstWhere over chunks. -/
theorem whereC (a : Option Addr) (b N c p kb fb : Nat) (kk : Int) (cr ml : Nat → Nat) (cc : Nat → Nat) (G : Nat → Nat) (I : Nat → Int) (w : World) (hN : N ≤ 1000000) (hp : p ≤ N) (ha : N = 0 ∨ a = some ⟨b, 0, none⟩)
    (hX : ∀ j, j < N → w.cell? ⟨b, j, none⟩ = some (.slice (some ⟨cr j, 0, none⟩) (ml j) (cc j))) (hml : ∀ j, j < N → 0 < ml j ∧ ml j ≤ 1000000) (hL : ∀ j, j < N → w.cell? ⟨cr j, ml j - 1, none⟩ = some (pt (G j)))
    (hI : ∀ j, j < N → w.cell? ⟨G j, 6, none⟩ = some (.int .i64 (I j))) (hf : w.cell? ⟨fb, 0, none⟩ = some (.func (.func 4) #[] #[pt kb])) (hk : w.cell? ⟨kb, 0, none⟩ = some (.int .i64 kk)) (hth : ∀ j, j < N → (kk ≤ I j ↔ p ≤ j)) :
    Calls Yba.prog 7 #[.slice a N c, .func (.func 8) #[] #[pt fb]] w fun e w' => e = .returned (.int .i64 p) ∧ Chg [] w w' := by
  have H : Hid (∀ o, o = Obj.cells #[.func (.func 8) #[] #[pt fb]] 40 → Calls Yba.prog 10 #[.slice a N c, .agg #[], .func (.func 11) #[] #[pt w.heap.size]] (w.alloc o) fun e w' => e = .returned (.tuple #[.int .i64 p, .bool false]) ∧ Chg [] (w.alloc o) w') := by
    rintro o rfl
    have h1 : Chg [] w (w.alloc (Obj.cells #[.func (.func 8) #[] #[pt fb]] 40)) := (Chg.refl [] w).alloc _
    have h2 := (World.rowIs_alloc w #[.func (.func 8) #[] #[pt fb]] 40 (fun _ => .func (.func 8) #[] #[pt fb]) (by intro i hi; match i, hi with | 0, _ => rfl)).cell (i := 0) (by simp)
    refine searchC a b w.heap.size N c p (fun j => .slice (some ⟨cr j, 0, none⟩) (ml j) (cc j)) _ hN hp ha (fun t ht => h1.cell (hX t ht) (by simp)) ?_
    intro w' hch t ht
    have h3 := h1.trans hch
    have := cmpC_at (cr t) (ml t) (cc t) fb w.heap.size kb (G t) (I t) kk w' (hml t ht).1 (hml t ht).2 (hch.cell h2 (by simp)) (h3.cell hf (by simp)) (h3.cell hk (by simp)) (h3.cell (hL t ht) (by simp)) (h3.cell (hI t ht) (by simp))
    simpa only [hth t ht] using this
  clear hX hI hk hth ha hL hml hf
  go_enter Yba.func7, Yba.ntmps7
  go_wp2_with fail
  refine (H.out _ rfl).mono ?_
  rintro e w' ⟨rfl, hch⟩
  go_wp2_with fail
  go_ret
  exact ⟨rfl, ((Chg.refl [] w).alloc _).trans hch⟩
end Go.Proofs.Ybulkdkvs.lawS5595CWhole

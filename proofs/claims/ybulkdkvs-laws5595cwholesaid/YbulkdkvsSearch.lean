import Derived.Test.YbulkdkvsWhere
namespace Go.Proofs.Ybulkdkvs.lawS5595CWhole
open Go.RowKit Go.Deep
set_option linter.unusedVariables false
set_option linter.unusedSimpArgs false

theorem hid_mk {p : Prop} (h : p) : Hid p := h

/-- Where kk lies among the chunks: c chunks lie wholly ahead of it. -/
theorem place (S ml : Nat → Nat) (kk : Nat) (h0 : S 0 = 0) : ∀ N, (∀ j, j < N → S (j + 1) = S j + ml j) → ∃ c, c ≤ N ∧ (∀ j, j < N → (kk < S (j + 1) ↔ c ≤ j)) ∧ S c ≤ kk
  | 0, _ => ⟨0, Nat.le_refl _, fun j hj => by omega, by omega⟩
  | N + 1, h => by
    obtain ⟨c, hc, hj, hs⟩ := place S ml kk h0 N (fun j hj => h j (by omega))
    have hN := h N (by omega)
    by_cases h1 : c < N
    · refine ⟨c, by omega, fun j hj' => ?_, hs⟩
      by_cases h2 : j < N
      · exact hj j h2
      · obtain rfl : j = N := by omega
        have := (hj (j - 1) (by omega)).2 (by omega)
        rw [show j - 1 + 1 = j by omega] at this
        constructor
        · intro _; omega
        · intro _; omega
    · obtain rfl : c = N := by omega
      by_cases h2 : kk < S (c + 1)
      · refine ⟨c, by omega, fun j hj' => ?_, hs⟩
        by_cases h3 : j < c
        · exact hj j h3
        · obtain rfl : j = c := by omega
          exact ⟨fun _ => Nat.le_refl _, fun _ => h2⟩
      · refine ⟨c + 1, Nat.le_refl _, fun j hj' => ?_, by omega⟩
        by_cases h3 : j < c
        · have := hj j h3
          constructor
          · intro h4; have := this.1 h4; omega
          · intro h4; omega
        · obtain rfl : j = c := by omega
          constructor
          · intro h4; omega
          · intro h4; omega

/-- The order as it lies in memory when it is searched. -/
structure Mem (ob kb : Nat) (kk N : Nat) (av : Option Addr) (ab cap : Nat) (cr ml S G : Nat → Nat) (w : World) : Prop where
  o : w.cell? ⟨ob, 0, none⟩ = some (.slice av N cap)
  av : N = 0 ∨ av = some ⟨ab, 0, none⟩
  ch : ∀ j, j < N → w.cell? ⟨ab, j, none⟩ = some (.slice (some ⟨cr j, 0, none⟩) (ml j) (ml j))
  row : ∀ j, j < N → ∀ t, t < ml j → w.cell? ⟨cr j, t, none⟩ = some (pt (G (S j + t)))
  pos : ∀ j, j < N → 0 < ml j ∧ ml j ≤ 256
  sum : ∀ j, j < N → S (j + 1) = S j + ml j
  zero : S 0 = 0
  tab : ∀ i, i < S N → w.cell? ⟨G i, 6, none⟩ = some (.int .i64 i)
  k : w.cell? ⟨kb, 0, none⟩ = some (.int .i64 kk)
  le : kk ≤ S N
  few : N ≤ 2048

section
variable {ob kb kk N : Nat} {av : Option Addr} {ab cap : Nat} {cr ml S G : Nat → Nat} {w w1 : World}
theorem Mem.chg (m : Mem ob kb kk N av ab cap cr ml S G w) (h : Chg [] w w1) : Mem ob kb kk N av ab cap cr ml S G w1 :=
  ⟨h.cell m.o (by simp), m.av, fun j hj => h.cell (m.ch j hj) (by simp), fun j hj t ht => h.cell (m.row j hj t ht) (by simp), m.pos, m.sum, m.zero, fun i hi => h.cell (m.tab i hi) (by simp), h.cell m.k (by simp), m.le, m.few⟩
theorem Mem.mono (m : Mem ob kb kk N av ab cap cr ml S G w) : ∀ {j i : Nat}, j ≤ i → i ≤ N → S j ≤ S i
  | j, 0, h, _ => by obtain rfl : j = 0 := by omega
                     exact Nat.le_refl _
  | j, i + 1, h, hi => by
    by_cases h1 : j = i + 1
    · rw [h1]; exact Nat.le_refl _
    · have := Mem.mono m (j := j) (i := i) (by omega) (by omega)
      have := m.sum i (by omega)
      omega

/-- Where find says that kk lies. -/
def At (S : Nat → Nat) (kk N c i : Nat) : Prop := (c = N ∧ i = 0 ∧ kk = S N) ∨ (c < N ∧ kk = S c + i ∧ kk < S (c + 1))

set_option maxRecDepth 100000 in
set_option maxHeartbeats 4000000 in
theorem find_at (m : Mem ob kb kk N av ab cap cr ml S G w) :
    Calls Yba.prog 6 #[pt ob, .func (.func 4) #[] #[pt kb]] w fun e w' => ∃ c i : Nat, At S kk N c i ∧ e = .returned (.tuple #[.int .i64 c, .int .i64 i]) ∧ Chg [] w w' := by
  obtain ⟨p, hp, hth, hle⟩ := place S ml kk m.zero N m.sum
  have hlast : ∀ j, j < N → S j + (ml j - 1) < S N := fun j hj => by have := m.sum j hj; have := m.pos j hj; have := m.mono (j := j + 1) (i := N) (by omega) (Nat.le_refl _); omega
  have HC : Hid (∀ o, o = Obj.cells #[.func (.func 4) #[] #[pt kb]] 33 → Calls Yba.prog 7 #[.slice av N cap, .func (.func 8) #[] #[pt w.heap.size]] (w.alloc o) fun e w' => e = .returned (.int .i64 p) ∧ Chg [] (w.alloc o) w') := by
    rintro o rfl
    have h1 : Chg [] w (w.alloc (Obj.cells #[.func (.func 4) #[] #[pt kb]] 33)) := (Chg.refl [] w).alloc _
    have h2 := (World.rowIs_alloc w #[.func (.func 4) #[] #[pt kb]] 33 (fun _ => .func (.func 4) #[] #[pt kb]) (by intro i hi; match i, hi with | 0, _ => rfl)).cell (i := 0) (by simp)
    have m1 := m.chg h1
    refine whereC av ab N cap p kb w.heap.size (kk : Int) cr ml ml (fun j => G (S j + (ml j - 1))) (fun j => ((S j + (ml j - 1) : Nat) : Int)) _ (by have := m.few; omega) hp m.av m1.ch (fun j hj => by have := m.pos j hj; omega) (fun j hj => m1.row j hj (ml j - 1) (by have := m.pos j hj; omega)) (fun j hj => m1.tab _ (hlast j hj)) h2 m1.k ?_
    intro j hj
    have h3 := hth j hj
    have h4 := m.sum j hj
    have h5 := m.pos j hj
    rw [← h3]
    omega
  have o1 : ∀ W, Chg [] w W → W.cell? ⟨ob, 0, none⟩ = some (.slice av N cap) := fun W h => h.cell m.o (by simp)
  have hr : ∀ o, (w.alloc o).cell? ⟨ob, 0, none⟩ = some (.slice av N cap) := fun o => o1 _ ((Chg.refl [] w).alloc o)
  have hfn : Hid (∀ W, Chg [] (w.alloc (Obj.cells #[.func (.func 4) #[] #[pt kb]] 33)) W → W.cell? ⟨w.heap.size, 0, none⟩ = some (.func (.func 4) #[] #[pt kb])) := fun W h => h.cell ((World.rowIs_alloc w #[.func (.func 4) #[] #[pt kb]] 33 (fun _ => .func (.func 4) #[] #[pt kb]) (by intro i hi; match i, hi with | 0, _ => rfl)).cell (i := 0) (by simp)) (by simp)
  have hN := m.few
  by_cases hpn : p = N
  · subst hpn
    have hkk : kk = S p := by have := m.le; omega
    have O1 : Hid (∀ W, Chg [] w W → W.cell? ⟨ob, 0, none⟩ = some (.slice av p cap)) := o1
    have HK : Hid (kk = S p) := hkk
    clear m hth hle hlast o1 hfn hkk
    go_enter Yba.func6, Yba.ntmps6
    go_wp2_with fail
    refine (HC.out _ rfl).mono ?_
    rintro e w' ⟨rfl, hch⟩
    have hch2 : Chg [] w w' := ((Chg.refl [] w).alloc _).trans hch
    have o2 := O1.out w' hch2
    go_wp2_with fail
    go_ret2
    exact ⟨p, 0, .inl ⟨rfl, rfl, HK.out⟩, rfl, hch2⟩
  · have hpl : p < N := by omega
    have hks : kk < S (p + 1) := (hth p hpl).2 (Nat.le_refl _)
    have hsum := m.sum p hpl
    have hpos := m.pos p hpl
    have HT : Hid (∀ W, Chg [] w W → Calls Yba.prog 9 #[.slice (some ⟨cr p, 0, none⟩) (ml p) (ml p), .func (.func 4) #[] #[pt kb]] W fun e w' => e = .returned (.int .i64 (kk - S p : Nat)) ∧ Chg [] W w') := by
      intro W h
      have m1 := m.chg h
      have := m.mono (j := p + 1) (i := N) (by omega) (Nat.le_refl _)
      refine whereT _ (cr p) (ml p) (ml p) (kk - S p) kb (kk : Int) (fun t => G (S p + t)) (fun t => ((S p + t : Nat) : Int)) W (by omega) (by omega) (.inr rfl) (m1.row p hpl) (fun t ht => m1.tab _ (by omega)) m1.k ?_
      intro t ht
      omega
    have hav : av = some ⟨ab, 0, none⟩ := by rcases m.av with h | h; omega; exact h
    subst hav
    have O1 : Hid (∀ W, Chg [] w W → W.cell? ⟨ob, 0, none⟩ = some (.slice (some ⟨ab, 0, none⟩) N cap) ∧ W.cell? ⟨ab, p, none⟩ = some (.slice (some ⟨cr p, 0, none⟩) (ml p) (ml p))) := fun W h => ⟨o1 W h, h.cell (m.ch p hpl) (by simp)⟩
    have HK : Hid (S p ≤ kk ∧ kk < S (p + 1)) := ⟨hle, hks⟩
    clear m hth hle hlast o1 hks hsum hpos
    have hne : ((p : Int) == (N : Int)) = false := by simp; omega
    have hpi : (p : Int) < (N : Int) := by omega
    go_enter Yba.func6, Yba.ntmps6
    go_wp2_with fail
    refine (HC.out _ rfl).mono ?_
    rintro e w' ⟨rfl, hch⟩
    have hch2 : Chg [] w w' := ((Chg.refl [] w).alloc _).trans hch
    obtain ⟨o2, o3⟩ := O1.out w' hch2
    have o4 := hfn.out w' hch
    go_upto_region 4 with fail
    go_region_held3 (fun W => W.cell? ⟨ob, 0, none⟩ = some (.slice (some ⟨ab, 0, none⟩) N cap) ∧ W.cell? ⟨ab, p, none⟩ = some (.slice (some ⟨cr p, 0, none⟩) (ml p) (ml p)) ∧ W.cell? ⟨w.heap.size, 0, none⟩ = some (.func (.func 4) #[] #[pt kb])) (first | exact ⟨o2, o3, o4⟩ | exact ⟨hch3.cell (a := ⟨ob, 0, none⟩) o2 (by simp), hch3.cell (a := ⟨ab, p, none⟩) o3 (by simp), hch3.cell (a := ⟨w.heap.size, 0, none⟩) o4 (by simp)⟩) (first | (go_at_call 9; refine (HT.out _ hch2.drew).mono ?_; rintro e w2 ⟨rfl, hch3⟩))
    go_wp2_with fail
    go_ret2
    exact ⟨p, kk - S p, .inr ⟨by omega, by have := HK.out; omega, HK.out.2⟩, rfl, hch2.drew.trans hch3⟩

/-- What search answers. -/
def ptAt (G : Nat → Nat) (kk n : Nat) : Value := if kk < n then pt (G kk) else .pointer none
def ptBefore (G : Nat → Nat) (kk : Nat) : Value := if 0 < kk then pt (G (kk - 1)) else .pointer none

set_option maxRecDepth 100000 in
set_option maxHeartbeats 4000000 in
theorem search_at (m : Mem ob kb kk N av ab cap cr ml S G w) :
    Calls Yba.prog 5 #[pt ob, .func (.func 4) #[] #[pt kb]] w fun e w' => e = .returned (.tuple #[ptAt G kk (S N), ptBefore G kk]) ∧ Chg [] w w' := by
  have HM : Hid (Mem ob kb kk N av ab cap cr ml S G w) := m
  have hN := m.few
  clear m
  go_enter Yba.func5, Yba.ntmps5
  go_wp2_with fail
  refine (find_at HM.out).mono ?_
  rintro e w' ⟨c, i, hat, rfl, hch⟩
  have m := HM.out.chg hch
  have o1 := m.o
  rcases hat with ⟨rfl, rfl, hkk⟩ | ⟨hc, hkk, hlt⟩
  · have e1 : ptAt G kk (S c) = .pointer none := if_neg (by omega)
    by_cases h0 : c = 0
    · subst h0
      have e2 : ptBefore G kk = .pointer none := if_neg (by have := m.zero; omega)
      have HE := hid_mk (And.intro e1 e2)
      clear m HM hkk e1 e2
      go_wp2_with fail
      go_ret2
      exact ⟨by rw [HE.out.1, HE.out.2]; rfl, hch⟩
    · have hav : av = some ⟨ab, 0, none⟩ := by rcases m.av with h | h; omega; exact h
      subst hav
      have hpos := m.pos (c - 1) (by omega)
      have hsum := m.sum (c - 1) (by omega)
      rw [show c - 1 + 1 = c by omega] at hsum
      have c1 := m.ch (c - 1) (by omega)
      have c2 := m.row (c - 1) (by omega) (ml (c - 1) - 1) (by omega)
      have e2 : ptBefore G kk = pt (G (S (c - 1) + (ml (c - 1) - 1))) := by
        unfold ptBefore
        rw [if_pos (by omega), show S (c - 1) + (ml (c - 1) - 1) = kk - 1 by omega]
      have HE := hid_mk (And.intro e1 e2)
      have hc1 : (c : Int) - 1 = ((c - 1 : Nat) : Int) := by omega
      have hc2 : c - 1 < c := by omega
      have hc3 : 0 < (c : Int) := by omega
      have hm1 : (ml (c - 1) : Int) - 1 = ((ml (c - 1) - 1 : Nat) : Int) := by omega
      have hm2 : ml (c - 1) - 1 < ml (c - 1) := by omega
      clear m HM hkk e1 e2 hsum
      generalize ml (c - 1) = M at *
      generalize M - 1 = M1 at *
      generalize G (S (c - 1) + M1) = g at *
      generalize cr (c - 1) = r at *
      generalize c - 1 = c0 at *
      go_wp2_with fail
      go_ret2
      exact ⟨by rw [HE.out.1, HE.out.2]; rfl, hch⟩
  · have hav : av = some ⟨ab, 0, none⟩ := by rcases m.av with h | h; omega; exact h
    subst hav
    have hsum := m.sum c hc
    have hpos := m.pos c hc
    have c1 := m.ch c hc
    have c2 := m.row c hc i (by omega)
    have e1 : ptAt G kk (S N) = pt (G (S c + i)) := by
      have := m.mono (j := c + 1) (i := N) (by omega) (Nat.le_refl _)
      unfold ptAt
      rw [if_pos (by omega), hkk]
    have hil : i < ml c := by omega
    have hci : (c : Int) < (N : Int) := by omega
    by_cases h0 : i = 0
    · subst h0
      by_cases hc0 : c = 0
      · subst hc0
        have e2 : ptBefore G kk = .pointer none := if_neg (by have := m.zero; omega)
        have HE := hid_mk (And.intro e1 e2)
        clear m HM hkk e1 e2 hsum hlt
        generalize G (S 0 + 0) = g at *
        generalize ml 0 = M at *
        go_wp2_with fail
        go_ret2
        exact ⟨by rw [HE.out.1, HE.out.2]; rfl, hch⟩
      · have hpos1 := m.pos (c - 1) (by omega)
        have hsum1 := m.sum (c - 1) (by omega)
        rw [show c - 1 + 1 = c by omega] at hsum1
        have d1 := m.ch (c - 1) (by omega)
        have d2 := m.row (c - 1) (by omega) (ml (c - 1) - 1) (by omega)
        have e2 : ptBefore G kk = pt (G (S (c - 1) + (ml (c - 1) - 1))) := by
          unfold ptBefore
          rw [if_pos (by omega), show S (c - 1) + (ml (c - 1) - 1) = kk - 1 by omega]
        have HE := hid_mk (And.intro e1 e2)
        have hc1 : (c : Int) - 1 = ((c - 1 : Nat) : Int) := by omega
        have hc2 : c - 1 < N := by omega
        have hc3 : 0 < (c : Int) := by omega
        have hm1 : (ml (c - 1) : Int) - 1 = ((ml (c - 1) - 1 : Nat) : Int) := by omega
        have hm2 : ml (c - 1) - 1 < ml (c - 1) := by omega
        clear m HM hkk e1 e2 hsum hsum1 hlt
        generalize ml (c - 1) = M at *
        generalize M - 1 = M1 at *
        generalize G (S (c - 1) + M1) = g at *
        generalize G (S c + 0) = g2 at *
        generalize cr (c - 1) = r at *
        generalize c - 1 = c0 at *
        generalize ml c = M2 at *
        generalize cr c = r2 at *
        go_wp2_with fail
        go_ret2
        exact ⟨by rw [HE.out.1, HE.out.2]; rfl, hch⟩
    · have c3 := m.row c hc (i - 1) (by omega)
      have e2 : ptBefore G kk = pt (G (S c + (i - 1))) := by
        unfold ptBefore
        rw [if_pos (by omega), show S c + (i - 1) = kk - 1 by omega]
      have HE := hid_mk (And.intro e1 e2)
      have hi1 : (i : Int) - 1 = ((i - 1 : Nat) : Int) := by omega
      have hi2 : i - 1 < ml c := by omega
      have hi3 : 0 < (i : Int) := by omega
      have hi4 : i ≤ 256 := by omega
      clear m HM hkk e1 e2 hsum hlt
      generalize G (S c + i) = g at *
      generalize i - 1 = i1 at *
      generalize G (S c + i1) = g2 at *
      generalize ml c = M2 at *
      generalize cr c = r2 at *
      go_wp2_with fail
      go_ret2
      exact ⟨by rw [HE.out.1, HE.out.2]; rfl, hch⟩
end
end Go.Proofs.Ybulkdkvs.lawS5595CWhole

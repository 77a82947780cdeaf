import Derived.Test.YbulkdkxiEnv
namespace Go.Proofs.Ybulkdkxi.lawS5598AWhole
open Go.RowKit Go.Deep
open Go.Sort (swp size_swp)
set_option linter.unusedVariables false
set_option linter.unusedSimpArgs false

variable {blk n cap : Nat} {lt : Int → Int → Bool} {S : Array Int → World → Prop}

/-- What order2 answers: the two places, in one order or the other. -/
def Ord2_o (S : Array Int → World → Prop) (d : Array Int) (a b : Nat) (e : Ending) (w : World) : Prop :=
  ∃ x y : Nat, e = .returned (.tuple #[.int .i64 x, .int .i64 y]) ∧ S d w ∧ ((x = a ∧ y = b) ∨ (x = b ∧ y = a))

set_option maxRecDepth 100000 in
set_option maxHeartbeats 4000000 in
theorem ord2_o {c : Nat} (E : Env blk n S) (C : LessOk n lt S) (K : Ctr c S) (hn : n ≤ 4096) (a b : Nat) (d : Array Int) (w : World) (h : S d w) (ha : a < n) (hb : b < n) :
    Calls Yba.prog 51 #[.slice (some ⟨blk, 0, none⟩) n cap, .int .i64 a, .int .i64 b, pt c] w fun e w' => Ord2_o (S) d a b e w' := by
  have mixed := mixedY
  have HE := hid_mk E
  have HC := hid_mk C
  have HK := hid_mk K
  clear E C K
  have hza : (a : Int) < (n : Int) := by omega
  have hzb : (b : Int) < (n : Int) := by omega
  go_enter Yba.func51, Yba.ntmps51
  obtain ⟨x, hx⟩ : ∃ x, x = d[b]! := ⟨_, rfl⟩
  obtain ⟨y, hy⟩ : ∃ y, y = d[a]! := ⟨_, rfl⟩
  have cx := HE.out.cell (HE.out.drew h) (b) (by omega)
  have cy := HE.out.cell (HE.out.drew h) (a) (by omega)
  have hc := HC.out.call d _ (HE.out.drew h) (b) (a) (by omega) (by omega)
  rw [← hx] at cx hc
  rw [← hy] at cy hc
  have HX := hid_mk hx
  have HY := hid_mk hy
  clear hx hy
  cases hlv : lt x y with
  | true =>
    go_upto_region 1 with fail
    go_region_held3 (fun w' => w'.cell? ⟨blk, b, none⟩ = some (uV x) ∧ w'.cell? ⟨blk, a, none⟩ = some (uV y)) (first | exact ⟨cx, cy⟩ | exact ⟨by rw [HX.out]; exact HE.out.cell S2 (b) (by omega), by rw [HY.out]; exact HE.out.cell S2 (a) (by omega)⟩) (first | (go_at_call 20; refine hc.mono ?_; rintro e w' ⟨rfl, S2⟩))
    clear cx cy hc h
    obtain ⟨s, cs⟩ := HK.out.cell S2
    have fs := HK.out.frz S2
    have S3 := hid_mk (HK.out.set S2)
    clear S2
    go_wp2_with fail
    go_ret2
    exact ⟨b, a, rfl, S3.out _, Or.inr ⟨rfl, rfl⟩⟩
  | false =>
    go_upto_region 1 with fail
    go_region_held3 (fun w' => w'.cell? ⟨blk, b, none⟩ = some (uV x) ∧ w'.cell? ⟨blk, a, none⟩ = some (uV y)) (first | exact ⟨cx, cy⟩ | exact ⟨by rw [HX.out]; exact HE.out.cell S2 (b) (by omega), by rw [HY.out]; exact HE.out.cell S2 (a) (by omega)⟩) (first | (go_at_call 20; refine hc.mono ?_; rintro e w' ⟨rfl, S2⟩))
    clear cx cy hc h
    go_wp2_with fail
    go_ret2
    exact ⟨a, b, rfl, S2, Or.inl ⟨rfl, rfl⟩⟩

/-- What median answers: one of the three places. -/
def Med_o (S : Array Int → World → Prop) (d : Array Int) (a b c : Nat) (e : Ending) (w : World) : Prop :=
  ∃ x : Nat, e = .returned (.int .i64 x) ∧ S d w ∧ (x = a ∨ x = b ∨ x = c)

set_option maxRecDepth 100000 in
set_option maxHeartbeats 4000000 in
theorem med_o {c : Nat} (E : Env blk n S) (C : LessOk n lt S) (K : Ctr c S) (hn : n ≤ 4096) (a b m : Nat) (d : Array Int) (w : World) (h : S d w) (ha : a < n) (hb : b < n) (hm : m < n) :
    Calls Yba.prog 47 #[.slice (some ⟨blk, 0, none⟩) n cap, .int .i64 a, .int .i64 b, .int .i64 m, pt c] w fun e w' => Med_o (S) d a b m e w' := by
  have HO := hid_mk (fun a b w => ord2_o (cap := cap) E C K hn a b d w)
  clear E C K
  go_enter Yba.func47, Yba.ntmps47
  have h1 := HO.out a b _ h ha hb
  go_upto_region 2 with (first | (go_at_call 51; refine h1.mono ?_; rintro e w1 ⟨x1, y1, rfl, S1, e1⟩))
  clear h1 h
  have hx1 : x1 < n := by omega
  have hy1 : y1 < n := by omega
  have E1 := hid_mk e1
  clear e1
  have h2 := HO.out y1 m _ S1 hy1 hm
  go_upto_region 3 with (first | (go_at_call 51; refine h2.mono ?_; rintro e w2 ⟨x2, y2, rfl, S2, e2⟩))
  clear h2 S1
  have hx2 : x2 < n := by omega
  have E2 := hid_mk e2
  clear e2
  have h3 := HO.out x1 x2 _ S2 hx1 hx2
  go_wp2_with (first | (go_at_call 51; refine h3.mono ?_; rintro e w3 ⟨x3, y3, rfl, S3, e3⟩))
  clear h3 S2
  have E3 := hid_mk e3
  clear e3
  go_ret
  exact ⟨y3, rfl, S3, by have := E1.out; have := E2.out; have := E3.out; omega⟩

set_option maxRecDepth 100000 in
set_option maxHeartbeats 4000000 in
theorem madj_o {c : Nat} (E : Env blk n S) (C : LessOk n lt S) (K : Ctr c S) (hn : n ≤ 4096) (a : Nat) (d : Array Int) (w : World) (h : S d w) (h1 : 1 ≤ a) (ha : a + 1 < n) :
    Calls Yba.prog 46 #[.slice (some ⟨blk, 0, none⟩) n cap, .int .i64 a, pt c] w fun e w' => Med_o (S) d (a - 1) a (a + 1) e w' := by
  obtain ⟨q, rfl⟩ : ∃ q, a = q + 1 := ⟨a - 1, by omega⟩
  have hM := med_o (cap := cap) E C K hn q (q + 1) (q + 1 + 1) d w h (by omega) (by omega) ha
  clear E C K
  have hz : ((q : Int) + 1 + 1) = ((q + 1 + 1 : Nat) : Int) := by omega
  have hz2 : (((q + 1 + 1 : Nat) : Int)) = (q : Int) + 1 + 1 := by omega
  have hz3 : (((q + 1 : Nat) : Int)) = (q : Int) + 1 := by omega
  rw [hz2, hz3] at hM
  clear hz hz2 hz3
  go_enter Yba.func46, Yba.ntmps46
  go_wp2_with (first | (go_at_call 47; refine hM.mono ?_; rintro e w1 ⟨x1, rfl, S1, e1⟩))
  have E1 := hid_mk e1
  clear e1
  go_ret
  exact ⟨x1, rfl, S1, by have := E1.out; omega⟩

/-- What choosePivot answers: a place between the two. -/
def Piv_o (S : Array Int → World → Prop) (d : Array Int) (a b : Nat) (e : Ending) (w : World) : Prop :=
  ∃ (p : Nat) (h : Int), e = .returned (.tuple #[.int .i64 p, .int .i64 h]) ∧ S d w ∧ a ≤ p ∧ p < b

/-- A counter can be made. -/
def CtrOk_o (blk n : Nat) (lt : Int → Int → Bool) (S : Array Int → World → Prop) : Prop :=
  ∀ (d : Array Int) (w : World), S d w → ∃ T : Array Int → World → Prop, Env blk n T ∧ LessOk n lt T ∧ Ctr w.heap.size T ∧ T d (w.alloc (.cells #[.int .i64 0] 3)) ∧ ∀ d' w', T d' w' → S d' w'

set_option maxRecDepth 100000 in
set_option maxHeartbeats 8000000 in
theorem piv_o (M : CtrOk_o blk n lt S) (hn : n ≤ 4096) (a b : Nat) (d : Array Int) (w : World) (h : S d w) (hab : a + 12 < b) (hb : b ≤ n) :
    Calls Yba.prog 27 #[.slice (some ⟨blk, 0, none⟩) n cap, .int .i64 a, .int .i64 b] w fun e w' => Piv_o (S) d a b e w' := by
  obtain ⟨T, E, C, K, h0, hTS⟩ := M d w h
  have HM := hid_mk (fun a b m w => med_o (cap := cap) E C K hn a b m d w)
  have HA := hid_mk (fun a w => madj_o (cap := cap) E C K hn a d w)
  have HK := hid_mk K
  have HT := hid_mk hTS
  clear M E C K hTS h
  obtain ⟨m, rfl⟩ : ∃ m, b = a + m := ⟨b - a, by omega⟩
  have hz1 : (a : Int) + (m : Int) - (a : Int) = (m : Int) := by omega
  obtain ⟨q, hq⟩ : ∃ q, q = m / 4 := ⟨_, rfl⟩
  have hz2 : (m : Int) / 4 = (q : Int) := by omega
  have hz3 : (m : Int).tdiv 4 = (q : Int) := by rw [Int.tdiv_eq_ediv_of_nonneg (by omega)]; exact hz2
  have hq3 : 3 ≤ q := by omega
  have hqm : q * 4 ≤ m := by omega
  obtain ⟨i0, hi0⟩ : ∃ x, x = a + q := ⟨_, rfl⟩
  obtain ⟨j0, hj0⟩ : ∃ x, x = a + q * 2 := ⟨_, rfl⟩
  obtain ⟨k0, hk0⟩ : ∃ x, x = a + q * 3 := ⟨_, rfl⟩
  have hz4 : (a : Int) + (q : Int) = (i0 : Int) := by omega
  have hz5 : (a : Int) + (q : Int) * 2 = (j0 : Int) := by omega
  have hz6 : (a : Int) + (q : Int) * 3 = (k0 : Int) := by omega
  have b1 : a + 1 ≤ i0 ∧ i0 + 1 < a + m := by omega
  have b2 : a + 1 ≤ j0 ∧ j0 + 1 < a + m := by omega
  have b3 : a + 1 ≤ k0 ∧ k0 + 1 < a + m := by omega
  clear hi0 hj0 hk0 hq
  obtain ⟨c, hc⟩ : ∃ c, c = w.heap.size := ⟨_, rfl⟩
  rw [← hc] at HM HA HK
  go_enter Yba.func27, Yba.ntmps27
  go_upto_if 32 with fail
  rw [← hc]
  generalize (w.alloc (.cells #[.int .i64 0] 3)) = w0 at h0 ⊢
  clear hc
  go_cut [11] (fun s wx => ∃ p : Nat, s = .int .i64 p ∧ a ≤ p ∧ p < a + m ∧ T d wx)
  case first => as_aux_lemma =>
    have h8 : (8 : Int) ≤ (m : Int) := by omega
    go_upto_if 34 with fail
    go_cut [10, 11, 12] (fun s1 s2 s3 wx => ∃ i j k : Nat, s1 = .int .i64 i ∧ s2 = .int .i64 j ∧ s3 = .int .i64 k ∧ (a ≤ i ∧ i < a + m) ∧ (a ≤ j ∧ j < a + m) ∧ (a ≤ k ∧ k < a + m) ∧ T d wx)
    case first => as_aux_lemma =>
      by_cases h50 : 50 ≤ m
      · have h50z : (50 : Int) ≤ (m : Int) := by omega
        have c1 := HA.out i0 _ h0 (by omega) (by omega)
        go_upto_region 9 with (first | (go_at_call 46; refine c1.mono ?_; rintro e w1 ⟨x1, rfl, S1, e1⟩))
        have E1 := hid_mk e1
        clear e1 c1
        have c2 := HA.out j0 _ S1 (by omega) (by omega)
        go_upto_region 10 with (first | (go_at_call 46; refine c2.mono ?_; rintro e w2 ⟨x2, rfl, S2, e2⟩))
        have E2 := hid_mk e2
        clear e2 c2
        have c3 := HA.out k0 _ S2 (by omega) (by omega)
        go_wp2_with (first | (go_at_call 46; refine c3.mono ?_; rintro e w3 ⟨x3, rfl, S3, e3⟩))
        have E3 := hid_mk e3
        clear e3 c3
        go_meet
        case rel => exact ⟨x1, x2, x3, rfl, rfl, rfl, by have := E1.out; omega, by have := E2.out; omega, by have := E3.out; omega, S3⟩
      · have h50z : ¬ (50 : Int) ≤ (m : Int) := by omega
        go_wp2_with fail
        go_meet
        case rel => exact ⟨i0, j0, k0, rfl, rfl, rfl, by omega, by omega, by omega, h0⟩
    case rest => as_aux_lemma =>
      obtain ⟨i, j, k, rfl, rfl, rfl, hi, hj, hk, S1⟩ := hcut
      clear h0
      have c1 := HM.out i j k _ S1 (by omega) (by omega) (by omega)
      go_wp2_with (first | (go_at_call 47; refine c1.mono ?_; rintro e w1 ⟨x1, rfl, S2, e1⟩))
      have E1 := hid_mk e1
      clear e1 c1
      go_meet
      case rel => exact ⟨x1, rfl, by have := E1.out; omega, by have := E1.out; omega, S2⟩
  case rest => as_aux_lemma =>
    obtain ⟨p, rfl, hp1, hp2, S1⟩ := hcut
    clear h0
    obtain ⟨s, cs⟩ := HK.out.cell S1
    have S2 := hid_mk (HT.out _ _ S1)
    clear S1
    by_cases hs0 : s = 0
    · subst hs0
      go_wp2_with fail
      go_ret2
      exact ⟨p, 1, rfl, S2.out, hp1, hp2⟩
    · by_cases hs12 : s = 12
      · subst hs12
        go_wp2_with fail
        go_ret2
        exact ⟨p, 2, rfl, S2.out, hp1, hp2⟩
      · go_wp2_with fail
        go_ret2
        exact ⟨p, 0, rfl, S2.out, hp1, hp2⟩

end Go.Proofs.Ybulkdkxi.lawS5598AWhole

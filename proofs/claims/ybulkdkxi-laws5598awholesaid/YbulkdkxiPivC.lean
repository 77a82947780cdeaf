import Derived.Test.YbulkdkxiEnv
namespace Go.Proofs.Ybulkdkxi.lawS5598AWhole
open Go.RowKit Go.Deep
open Go.Sort (swp size_swp)
set_option linter.unusedVariables false
set_option linter.unusedSimpArgs false

variable {blk n ob db cap : Nat} {cf : Int → Int → Int} {S : Nat → Array Int → World → Prop}

/-- What order2 answers: the two places, in one order or the other. -/
def Ord2_c (S : Array Int → World → Prop) (d : Array Int) (a b : Nat) (e : Ending) (w : World) : Prop :=
  ∃ x y : Nat, e = .returned (.tuple #[.int .i64 x, .int .i64 y]) ∧ S d w ∧ ((x = a ∧ y = b) ∨ (x = b ∧ y = a))

set_option maxRecDepth 100000 in
set_option maxHeartbeats 4000000 in
theorem ord2_c {c : Nat} (E : ∀ t, Env blk n (S t)) (C : CmpOk n ob db cf S) (K : ∀ t, Ctr c (S t)) (hn : n ≤ 4096) (tk : Nat) (a b : Nat) (d : Array Int) (w : World) (h : S tk d w) (ha : a < n) (hb : b < n) (htk : 1 ≤ tk) :
    Calls Yba.prog 52 #[.slice (some ⟨blk, 0, none⟩) n cap, .int .i64 a, .int .i64 b, pt c, cmpV ob db] w fun e w' => Ord2_c (S (tk - (1))) d a b e w' := by
  have mixed := mixedY
  have HE := hid_mk E
  have HC := hid_mk C
  have HK := hid_mk K
  clear E C K
  have hza : (a : Int) < (n : Int) := by omega
  have hzb : (b : Int) < (n : Int) := by omega
  go_enter Yba.func52, Yba.ntmps52
  obtain ⟨x, hx⟩ : ∃ x, x = d[b]! := ⟨_, rfl⟩
  obtain ⟨y, hy⟩ : ∃ y, y = d[a]! := ⟨_, rfl⟩
  have cx := (HE.out _).cell ((HE.out _).drew h) (b) (by omega)
  have cy := (HE.out _).cell ((HE.out _).drew h) (a) (by omega)
  have hc := HC.out.call _ d _ ((HE.out _).drew h) (b) (a) (by omega) (by omega) (by omega)
  rw [← hx] at cx hc
  rw [← hy] at cy hc
  have HX := hid_mk hx
  have HY := hid_mk hy
  clear hx hy
  cases hlv : (ltc cf) x y with
  | true =>
    have hd : decide (cf x y < 0) = true := hlv
    go_upto_region 1 with fail
    go_region_held3 (fun w' => w'.cell? ⟨blk, b, none⟩ = some (uV x) ∧ w'.cell? ⟨blk, a, none⟩ = some (uV y)) (first | exact ⟨cx, cy⟩ | exact ⟨by rw [HX.out]; exact (HE.out _).cell S2 (b) (by omega), by rw [HY.out]; exact (HE.out _).cell S2 (a) (by omega)⟩) (first | (go_at_call 16; refine hc.mono ?_; rintro e w' ⟨rfl, S2⟩))
    clear cx cy hc h
    obtain ⟨s, cs⟩ := (HK.out _).cell S2
    have fs := (HK.out _).frz S2
    have S3 := hid_mk ((HK.out _).set S2)
    clear S2
    go_wp2_with fail
    go_ret2
    exact ⟨b, a, rfl, S3.out _, Or.inr ⟨rfl, rfl⟩⟩
  | false =>
    have hd : decide (cf x y < 0) = false := hlv
    go_upto_region 1 with fail
    go_region_held3 (fun w' => w'.cell? ⟨blk, b, none⟩ = some (uV x) ∧ w'.cell? ⟨blk, a, none⟩ = some (uV y)) (first | exact ⟨cx, cy⟩ | exact ⟨by rw [HX.out]; exact (HE.out _).cell S2 (b) (by omega), by rw [HY.out]; exact (HE.out _).cell S2 (a) (by omega)⟩) (first | (go_at_call 16; refine hc.mono ?_; rintro e w' ⟨rfl, S2⟩))
    clear cx cy hc h
    go_wp2_with fail
    go_ret2
    exact ⟨a, b, rfl, S2, Or.inl ⟨rfl, rfl⟩⟩

/-- What median answers: one of the three places. -/
def Med_c (S : Array Int → World → Prop) (d : Array Int) (a b c : Nat) (e : Ending) (w : World) : Prop :=
  ∃ x : Nat, e = .returned (.int .i64 x) ∧ S d w ∧ (x = a ∨ x = b ∨ x = c)

set_option maxRecDepth 100000 in
set_option maxHeartbeats 4000000 in
theorem med_c {c : Nat} (E : ∀ t, Env blk n (S t)) (C : CmpOk n ob db cf S) (K : ∀ t, Ctr c (S t)) (hn : n ≤ 4096) (tk : Nat) (a b m : Nat) (d : Array Int) (w : World) (h : S tk d w) (ha : a < n) (hb : b < n) (hm : m < n) (htk : 3 ≤ tk) :
    Calls Yba.prog 50 #[.slice (some ⟨blk, 0, none⟩) n cap, .int .i64 a, .int .i64 b, .int .i64 m, pt c, cmpV ob db] w fun e w' => Med_c (S (tk - (3))) d a b m e w' := by
  have HO := hid_mk (fun tk a b w => ord2_c (cap := cap) E C K hn tk a b d w)
  clear E C K
  go_enter Yba.func50, Yba.ntmps50
  have h1 := HO.out _ a b _ h ha hb (by omega)
  go_upto_region 2 with (first | (go_at_call 52; refine h1.mono ?_; rintro e w1 ⟨x1, y1, rfl, S1, e1⟩))
  clear h1 h
  have hx1 : x1 < n := by omega
  have hy1 : y1 < n := by omega
  have E1 := hid_mk e1
  clear e1
  have h2 := HO.out _ y1 m _ S1 hy1 hm (by omega)
  go_upto_region 3 with (first | (go_at_call 52; refine h2.mono ?_; rintro e w2 ⟨x2, y2, rfl, S2, e2⟩))
  clear h2 S1
  have hx2 : x2 < n := by omega
  have E2 := hid_mk e2
  clear e2
  have h3 := HO.out _ x1 x2 _ S2 hx1 hx2 (by omega)
  go_wp2_with (first | (go_at_call 52; refine h3.mono ?_; rintro e w3 ⟨x3, y3, rfl, S3, e3⟩))
  clear h3 S2
  have E3 := hid_mk e3
  clear e3
  go_ret
  exact ⟨y3, rfl, (by simpa [Nat.sub_sub] using S3), by have := E1.out; have := E2.out; have := E3.out; omega⟩

set_option maxRecDepth 100000 in
set_option maxHeartbeats 4000000 in
theorem madj_c {c : Nat} (E : ∀ t, Env blk n (S t)) (C : CmpOk n ob db cf S) (K : ∀ t, Ctr c (S t)) (hn : n ≤ 4096) (tk : Nat) (a : Nat) (d : Array Int) (w : World) (h : S tk d w) (h1 : 1 ≤ a) (ha : a + 1 < n) (htk : 3 ≤ tk) :
    Calls Yba.prog 49 #[.slice (some ⟨blk, 0, none⟩) n cap, .int .i64 a, pt c, cmpV ob db] w fun e w' => Med_c (S (tk - (3))) d (a - 1) a (a + 1) e w' := by
  obtain ⟨q, rfl⟩ : ∃ q, a = q + 1 := ⟨a - 1, by omega⟩
  have hM := med_c (cap := cap) E C K hn tk q (q + 1) (q + 1 + 1) d w h (by omega) (by omega) ha htk
  clear E C K
  have hz : ((q : Int) + 1 + 1) = ((q + 1 + 1 : Nat) : Int) := by omega
  have hz2 : (((q + 1 + 1 : Nat) : Int)) = (q : Int) + 1 + 1 := by omega
  have hz3 : (((q + 1 : Nat) : Int)) = (q : Int) + 1 := by omega
  rw [hz2, hz3] at hM
  clear hz hz2 hz3
  go_enter Yba.func49, Yba.ntmps49
  go_wp2_with (first | (go_at_call 50; refine hM.mono ?_; rintro e w1 ⟨x1, rfl, S1, e1⟩))
  have E1 := hid_mk e1
  clear e1
  go_ret
  exact ⟨x1, rfl, S1, by have := E1.out; omega⟩

/-- What choosePivot answers: a place between the two. -/
def Piv_c (S : Array Int → World → Prop) (d : Array Int) (a b : Nat) (e : Ending) (w : World) : Prop :=
  ∃ (p : Nat) (h : Int), e = .returned (.tuple #[.int .i64 p, .int .i64 h]) ∧ S d w ∧ a ≤ p ∧ p < b

/-- A counter can be made. -/
def CtrOk_c (blk n : Nat) (ob db : Nat) (cf : Int → Int → Int) (S : Nat → Array Int → World → Prop) : Prop :=
  ∀ (tk : Nat) (d : Array Int) (w : World), S tk d w → ∃ T : Nat → Array Int → World → Prop, (∀ t, Env blk n (T t)) ∧ CmpOk n ob db cf T ∧ (∀ t, Ctr w.heap.size (T t)) ∧ T tk d (w.alloc (.cells #[.int .i64 0] 3)) ∧ ∀ t d' w', T t d' w' → S t d' w'

set_option maxRecDepth 100000 in
set_option maxHeartbeats 8000000 in
theorem piv_c (M : CtrOk_c blk n ob db cf S) (hn : n ≤ 4096) (tk : Nat) (a b : Nat) (d : Array Int) (w : World) (h : S tk d w) (hab : a + 12 < b) (hb : b ≤ n) (htk : 12 ≤ tk) :
    Calls Yba.prog 38 #[.slice (some ⟨blk, 0, none⟩) n cap, .int .i64 a, .int .i64 b, cmpV ob db] w fun e w' => Piv_c (S (tk - (12))) d a b e w' := by
  obtain ⟨T, E, C, K, h0, hTS⟩ := M tk d w h
  have HM := hid_mk (fun tk a b m w => med_c (cap := cap) E C K hn tk a b m d w)
  have HA := hid_mk (fun tk a w => madj_c (cap := cap) E C K hn tk a d w)
  have HK := hid_mk K
  have HT := hid_mk hTS
  have HC := hid_mk C
  clear M E C K hTS h
  obtain ⟨m, rfl⟩ : ∃ m, b = a + m := ⟨b - a, by omega⟩
  have hz1 : (a : Int) + (m : Int) - (a : Int) = (m : Int) := by omega
  obtain ⟨q, hq⟩ : ∃ q, q = m / 4 := ⟨_, rfl⟩
  have hz2 : (m : Int) / 4 = (q : Int) := by omega
  have hz3 : (m : Int).tdiv 4 = (q : Int) := by rw [Int.tdiv_eq_ediv_of_nonneg (by omega)]; exact hz2
  have hq3 : 3 ≤ q := by omega
  have hqm : q * 4 ≤ m := by omega
  obtain ⟨i0, hi0⟩ : ∃ x, x = a + q := ⟨_, rfl⟩
  obtain ⟨j0, hj0⟩ : ∃ x, x = a + q * 2 := ⟨_, rfl⟩
  obtain ⟨k0, hk0⟩ : ∃ x, x = a + q * 3 := ⟨_, rfl⟩
  have hz4 : (a : Int) + (q : Int) = (i0 : Int) := by omega
  have hz5 : (a : Int) + (q : Int) * 2 = (j0 : Int) := by omega
  have hz6 : (a : Int) + (q : Int) * 3 = (k0 : Int) := by omega
  have b1 : a + 1 ≤ i0 ∧ i0 + 1 < a + m := by omega
  have b2 : a + 1 ≤ j0 ∧ j0 + 1 < a + m := by omega
  have b3 : a + 1 ≤ k0 ∧ k0 + 1 < a + m := by omega
  clear hi0 hj0 hk0 hq
  obtain ⟨c, hc⟩ : ∃ c, c = w.heap.size := ⟨_, rfl⟩
  rw [← hc] at HM HA HK
  go_enter Yba.func38, Yba.ntmps38
  go_upto_if 34 with fail
  rw [← hc]
  generalize (w.alloc (.cells #[.int .i64 0] 3)) = w0 at h0 ⊢
  clear hc
  go_cut [13] (fun s wx => ∃ p : Nat, s = .int .i64 p ∧ a ≤ p ∧ p < a + m ∧ T (tk - 12) d wx)
  case first => as_aux_lemma =>
    have h8 : (8 : Int) ≤ (m : Int) := by omega
    go_upto_if 36 with fail
    go_cut [12, 13, 14] (fun s1 s2 s3 wx => ∃ i j k : Nat, s1 = .int .i64 i ∧ s2 = .int .i64 j ∧ s3 = .int .i64 k ∧ (a ≤ i ∧ i < a + m) ∧ (a ≤ j ∧ j < a + m) ∧ (a ≤ k ∧ k < a + m) ∧ T (tk - 9) d wx)
    case first => as_aux_lemma =>
      by_cases h50 : 50 ≤ m
      · have h50z : (50 : Int) ≤ (m : Int) := by omega
        have c1 := HA.out _ i0 _ h0 (by omega) (by omega) (by omega)
        go_upto_region 9 with (first | (go_at_call 49; refine c1.mono ?_; rintro e w1 ⟨x1, rfl, S1, e1⟩))
        have E1 := hid_mk e1
        clear e1 c1
        have c2 := HA.out _ j0 _ S1 (by omega) (by omega) (by omega)
        go_upto_region 10 with (first | (go_at_call 49; refine c2.mono ?_; rintro e w2 ⟨x2, rfl, S2, e2⟩))
        have E2 := hid_mk e2
        clear e2 c2
        have c3 := HA.out _ k0 _ S2 (by omega) (by omega) (by omega)
        go_wp2_with (first | (go_at_call 49; refine c3.mono ?_; rintro e w3 ⟨x3, rfl, S3, e3⟩))
        have E3 := hid_mk e3
        clear e3 c3
        go_meet
        case rel => exact ⟨x1, x2, x3, rfl, rfl, rfl, by have := E1.out; omega, by have := E2.out; omega, by have := E3.out; omega, (HC.out.mono S3 (by omega))⟩
      · have h50z : ¬ (50 : Int) ≤ (m : Int) := by omega
        go_wp2_with fail
        go_meet
        case rel => exact ⟨i0, j0, k0, rfl, rfl, rfl, by omega, by omega, by omega, (HC.out.mono h0 (by omega))⟩
    case rest => as_aux_lemma =>
      obtain ⟨i, j, k, rfl, rfl, rfl, hi, hj, hk, S1⟩ := hcut
      clear h0
      have c1 := HM.out _ i j k _ S1 (by omega) (by omega) (by omega) (by omega)
      go_wp2_with (first | (go_at_call 50; refine c1.mono ?_; rintro e w1 ⟨x1, rfl, S2, e1⟩))
      have E1 := hid_mk e1
      clear e1 c1
      go_meet
      case rel => exact ⟨x1, rfl, by have := E1.out; omega, by have := E1.out; omega, (HC.out.mono S2 (by omega))⟩
  case rest => as_aux_lemma =>
    obtain ⟨p, rfl, hp1, hp2, S1⟩ := hcut
    clear h0
    obtain ⟨s, cs⟩ := (HK.out _).cell S1
    have S2 := hid_mk (HT.out _ _ _ S1)
    clear S1
    by_cases hs0 : s = 0
    · subst hs0
      go_wp2_with fail
      go_ret2
      exact ⟨p, 1, rfl, S2.out, hp1, hp2⟩
    · by_cases hs12 : s = 12
      · subst hs12
        go_wp2_with fail
        go_ret2
        exact ⟨p, 2, rfl, S2.out, hp1, hp2⟩
      · go_wp2_with fail
        go_ret2
        exact ⟨p, 0, rfl, S2.out, hp1, hp2⟩

end Go.Proofs.Ybulkdkxi.lawS5598AWhole

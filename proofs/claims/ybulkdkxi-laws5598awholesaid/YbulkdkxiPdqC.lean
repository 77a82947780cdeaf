import Derived.Test.YbulkdkxiInsC
import Derived.Test.YbulkdkxiHeapC
import Derived.Test.YbulkdkxiPinsC
import Derived.Test.YbulkdkxiPeqC
import Derived.Test.YbulkdkxiPartC
import Derived.Test.YbulkdkxiPivC
import Derived.Test.YbulkdkxiBrkC
namespace Go.Proofs.Ybulkdkxi.lawS5598AWhole
open Go.RowKit Go.Deep
open Go.Sort (swp size_swp)
set_option linter.unusedVariables false
set_option linter.unusedSimpArgs false

variable {blk n ob db cap : Nat} {cf : Int → Int → Int} {S : Nat → Array Int → World → Prop}

/-- What the sort of [a, b) answers. -/
def PdqS_c (lt : Int → Int → Bool) (S : Array Int → World → Prop) (d : Array Int) (a b : Nat) (e : Ending) (w : World) : Prop :=
  ∃ d', e = .returned (.tuple #[]) ∧ Sort.PermIn a b d d' ∧ Sort.SortedIn lt a b d' ∧ S d' w

theorem swo_cast_c {lt : Int → Int → Bool} {a b : Nat} {d d' : Array Int} (hb : b ≤ d.size) (h : Sort.Below lt a b d) (hp : Sort.PermIn a b d d') : Sort.Below lt a b d' := h.perm hb hp

set_option maxRecDepth 100000 in
set_option maxHeartbeats 32000000 in
theorem pdq_c (E : ∀ t, Env blk n (S t)) (C : CmpOk n ob db cf S) (M : CtrOk_c blk n ob db cf S) (MR : ∀ t, RndOk blk n (S t)) (hO : Sort.SWO (ltc cf)) (hn : n ≤ 4096) : ∀ (N tk a b lim : Nat) (d : Array Int) (w : World), 220000000 * (b - a) + 110000000 ≤ tk → b - a < N → lim ≤ 100 → S tk d w → a ≤ b → b ≤ n → Sort.Below (ltc cf) a b d →
    Calls Yba.prog 23 #[.slice (some ⟨blk, 0, none⟩) n cap, .int .i64 a, .int .i64 b, .int .i64 lim, cmpV ob db] w fun e w' => PdqS_c (ltc cf) (S (tk - (220000000 * (b - a) + 110000000))) d a b e w' := by
  intro N
  induction N with
  | zero => intro tk a b lim d w _ h; omega
  | succ N ih =>
  intro tk a0 b0 lim0 d w htk hN hlim h hab hb hB
  have IH := hid_mk ih
  clear ih
  have mixed := mixedY
  have HO := hid_mk hO
  have HE := hid_mk E
  have HC := hid_mk C
  have hIns := hid_mk (fun tk a b d w => ins_c (cap := cap) E C hn tk a b d w)
  have hHeap := hid_mk (fun tk a b d w => heap_c (cap := cap) E C hn tk a b d w)
  have hPins := hid_mk (fun tk a b d w => pins_c (cap := cap) E C hn tk a b d w)
  have hPeq := hid_mk (fun tk a b p d w => peq_c (cap := cap) E C hn tk a b p d w)
  have hPart := hid_mk (fun tk a b p d w => part_c (cap := cap) E C hn tk a b p d w)
  have hPiv := hid_mk (fun tk a b d w => piv_c (cap := cap) M hn tk a b d w)
  have hRev := hid_mk (fun tk a b d w => rev_c (cap := cap) (ob := ob) (db := db) (E tk) hn a b d w)
  have hBrk := hid_mk (fun tk a b d w => brk_c (cap := cap) (ob := ob) (db := db) (MR tk) hn a b d w)
  clear E C M MR hO
  have HB := hid_mk hB
  clear hB
  go_enter Yba.func23, Yba.ntmps23
  go_wp2_with fail
  go_loopg [1, 2, 3, 10, 11] (b0 - a0 + 1) (fun g1 va vb vl vwb vwp wr => ∃ (a b lim : Nat) (wb wp : Bool) (dk : Array Int), va = .int .i64 a ∧ vb = .int .i64 b ∧ vl = .int .i64 lim ∧ vwb = .bool wb ∧ vwp = .bool wp ∧
    a0 ≤ a ∧ a ≤ b ∧ b ≤ b0 ∧ lim ≤ 100 ∧ b - a ≤ g1 ∧ S (tk - (220000000 * ((b0 - a0) - (b - a)))) dk wr ∧ Hid (Sort.Below (ltc cf) a b dk) ∧ Hid (∀ R, Sort.PermIn a b dk R → Sort.SortedIn (ltc cf) a b R → Sort.PermIn a0 b0 d R ∧ Sort.SortedIn (ltc cf) a0 b0 R))
  case atStart => exact ⟨a0, b0, lim0, true, true, d, rfl, rfl, rfl, rfl, rfl, Nat.le_refl _, hab, Nat.le_refl _, hlim, by omega, (HC.out.mono h (by omega)), HB, fun R h1 h2 => ⟨h1, h2⟩⟩
  case round =>
    obtain ⟨a, b, lim, wb, wp, dk, rfl, rfl, rfl, rfl, rfl, ha0, hab1, hb0, hl, hg1, SK, HB1, HG⟩ := hrel
    clear h HB
    by_cases h12 : b - a ≤ 12
    · have hz : (b : Int) - (a : Int) ≤ 12 := by omega
      have hc := hIns.out _ a b dk _ SK hab1 (by omega) (by omega)
      have hsz := hid_mk ((HE.out _).size SK)
      go_wp2_with (first | (go_at_call 35; refine hc.mono ?_; rintro e w' ⟨rfl, S2⟩))
      (try simp only [Exit.inBlock, Exit.then]); refine bodyPost_ret (results_none rfl _ _ _) rfl ?_
      have hs := Sort.insertionSort_holds HO.out dk a b hab1 (by rw [hsz.out]; omega)
      have hf := HG.out _ hs.1 hs.2
      exact ⟨_, rfl, hf.1, hf.2, (HC.out.mono S2 (by omega))⟩
    have hz : ¬ (b : Int) - (a : Int) ≤ 12 := by omega
    by_cases hl0 : lim = 0
    · subst hl0
      have hc := hHeap.out _ a b dk _ SK (by omega) (by omega) (by omega)
      have hsz := hid_mk ((HE.out _).size SK)
      go_wp2_with (first | (go_at_call 36; refine hc.mono ?_; rintro e w' ⟨rfl, S2⟩))
      (try simp only [Exit.inBlock, Exit.then]); refine bodyPost_ret (results_none rfl _ _ _) rfl ?_
      have hs := Sort.heapSort_holds HO.out dk a b hab1 (by rw [hsz.out]; omega)
      have hf := HG.out _ hs.1 hs.2
      exact ⟨_, rfl, hf.1, hf.2, (HC.out.mono S2 (by omega))⟩
    obtain ⟨lm, rfl⟩ : ∃ l, lim = l + 1 := ⟨lim - 1, by omega⟩
    have hlz : ¬ (lm : Int) + 1 = 0 := by omega
    go_upto_if 39 with fail
    go_cut [3] (fun s wx => ∃ (l2 : Nat) (d1 : Array Int), s = .int .i64 l2 ∧ l2 ≤ 100 ∧ S (tk - (220000000 * ((b0 - a0) - (b - a)))) d1 wx ∧ Hid (Sort.PermIn a b dk d1))
    case first => as_aux_lemma =>
      cases wb with
      | true =>
        go_wp2_with fail
        go_meet
        case rel => exact ⟨lm + 1, dk, by go_num, hl, SK, Sort.permIn_refl _ _ _⟩
      | false =>
        have hc := hBrk.out _ a b dk _ SK (by omega) (by omega)
        go_wp2_with (first | (go_at_call 37; refine hc.mono ?_; rintro e w' ⟨d1, rfl, hp, S2⟩))
        have hp' := hid_mk hp
        clear hp
        go_meet
        case rel => exact ⟨lm, d1, by go_num, by omega, S2, hp'⟩
    case rest => as_aux_lemma =>
    obtain ⟨l2, d1, rfl, hl2, S1, HP1⟩ := hcut
    clear SK
    have hc := hPiv.out _ a b d1 _ S1 (by omega) (by omega) (by omega)
    go_upto_region 11 with (first | (go_at_call 38; refine hc.mono ?_; rintro e w' ⟨p, hint, rfl, S2, hp1, hp2⟩))
    clear hc S1
    go_upto_if 56 with fail
    go_cut [13, 14] (fun s1 s2 wx => ∃ (p2 : Nat) (h2 : Int) (d2 : Array Int), s1 = .int .i64 p2 ∧ s2 = .int .i64 h2 ∧ a ≤ p2 ∧ p2 < b ∧ S (tk - (220000000 * ((b0 - a0) - (b - a)) + 12)) d2 wx ∧ Hid (Sort.PermIn a b d1 d2))
    case first => as_aux_lemma =>
      by_cases hh : hint = 2
      · subst hh
        have hc := hRev.out _ a b d1 _ S2 (by omega) (by omega)
        obtain ⟨p2, hp3⟩ : ∃ q, q = b - 1 - (p - a) := ⟨_, rfl⟩
        have hpz : (b : Int) - 1 - ((p : Int) - (a : Int)) = (p2 : Int) := by omega
        have hp4 : a ≤ p2 ∧ p2 < b := by omega
        clear hp3
        go_wp2_with (first | (go_at_call 39; refine hc.mono ?_; rintro e w' ⟨d2, rfl, hp, S3⟩))
        have hp' := hid_mk hp
        clear hp
        go_meet
        case rel => exact ⟨p2, 1, d2, rfl, rfl, hp4.1, hp4.2, S3, hp'⟩
      · go_wp2_with fail
        go_meet
        case rel => exact ⟨p, hint, d1, rfl, rfl, hp1, hp2, S2, Sort.permIn_refl _ _ _⟩
    case rest => as_aux_lemma =>
    obtain ⟨p2, h2, d2, rfl, rfl, hp3, hp4, S3, HP2⟩ := hcut
    clear S2 hp1 hp2
    have HP12 := hid_mk (Sort.permIn_trans _ _ _ _ _ HP1.out HP2.out)
    clear HP1 HP2
    have hszk : Hid (dk.size = n) := by
      have h1 := (HE.out _).size S3
      have h2 := HP12.out.1
      show _ = _
      omega
    have HB2 : Hid (Sort.Below (ltc cf) a b d2) := swo_cast_c (by rw [hszk.out]; omega) HB1.out HP12.out
    obtain ⟨X, hX⟩ : ∃ X, X = (wb && (wp && decide (h2 = 1))) := ⟨_, rfl⟩
    have HX := hid_mk hX
    clear hX
    go_upto_region 15 with fail
    go_cut [75] (fun s wx => s = .bool X ∧ S (tk - (220000000 * ((b0 - a0) - (b - a)) + 12)) d2 wx)
    case first => as_aux_lemma =>
      by_cases hh : h2 = 1
      · subst hh
        cases wb <;> cases wp <;>
        (go_wp2_with fail
         go_meet
         case rel => exact ⟨by rw [HX.out]; rfl, S3⟩)
      · have hX2 : Hid (X = false) := by show _ = _; rw [HX.out, decide_eq_false hh]; simp
        cases wb <;> cases wp <;>
        (go_wp2_with fail
         go_meet
         case rel => exact ⟨by rw [hX2.out]; first | done | simp [hh], S3⟩)
    case rest => as_aux_lemma =>
    obtain ⟨rfl, S3b⟩ := hcut
    clear S3 HX
    go_upto_if 75 with fail
    go_cut [13] (fun s wx => s = .int .i64 p2 ∧ ∃ (d3 : Array Int), S (tk - (220000000 * ((b0 - a0) - (b - a)) + 70012)) d3 wx ∧ Hid (Sort.PermIn a b d2 d3))
    case first => as_aux_lemma =>
      cases X with
      | true =>
        have hc := hPins.out _ a b d2 _ S3b (by omega) (by omega) (by omega)
        have hs := Sort.partialInsertionSort_holds HO.out d2 a b (by omega) (by rw [(HE.out _).size S3b]; omega) HB2.out
        obtain ⟨R, hR⟩ : ∃ R, R = Sort.partialInsertionSort (ltc cf) d2 a b := ⟨_, rfl⟩
        rw [← hR] at hc hs
        obtain ⟨d3, fl⟩ := R
        have HS := hid_mk hs
        clear hR hs
        cases fl with
        | true =>
          go_wp2_with (first | (go_at_call 40; refine hc.mono ?_; rintro e w' ⟨rfl, S4⟩))
          (try simp only [Exit.inBlock, Exit.then]); refine bodyPost_ret (results_none rfl _ _ _) rfl ?_
          have hf := HG.out d3 (Sort.permIn_trans _ _ _ _ _ HP12.out HS.out.1) (HS.out.2 (by first | rfl | trivial))
          exact ⟨_, rfl, hf.1, hf.2, (HC.out.mono S4 (by omega))⟩
        | false =>
          go_wp2_with (first | (go_at_call 40; refine hc.mono ?_; rintro e w' ⟨rfl, S4⟩))
          go_meet
          case rel => exact ⟨rfl, d3, (HC.out.mono S4 (by omega)), HS.out.1⟩
      | false =>
        go_wp2_with fail
        go_meet
        case rel => exact ⟨rfl, d2, (HC.out.mono S3b (by omega)), Sort.permIn_refl _ _ _⟩
    case rest => as_aux_lemma =>
    obtain ⟨rfl, d3, S4, HP3⟩ := hcut
    clear S3b
    have HP13 := hid_mk (Sort.permIn_trans _ _ _ _ _ HP12.out HP3.out)
    have HB3 : Hid (Sort.Below (ltc cf) a b d3) := swo_cast_c (by rw [hszk.out]; omega) HB1.out HP13.out
    have hsz3 : Hid (d3.size = n) := (HE.out _).size S4
    clear HP12 HP3 HB2 HB1
    obtain ⟨Z, hZ⟩ : ∃ Z, Z = (decide (0 < a) && !(ltc cf) d3[a - 1]! d3[p2]!) := ⟨_, rfl⟩
    have HZ := hid_mk hZ
    clear hZ
    have hpn : (p2 : Int) < (n : Int) := by omega
    go_upto_region 17 with fail
    go_cut [97] (fun s wx => s = .bool Z ∧ S (tk - (220000000 * ((b0 - a0) - (b - a)) + 70013)) d3 wx)
    case first => as_aux_lemma =>
      by_cases hA : a = 0
      · subst hA
        have hZ2 : Hid (Z = false) := by show _ = _; rw [HZ.out]; rfl
        go_quiet (fail)
        go_wp2_with fail
        go_meet
        case rel => exact ⟨by rw [hZ2.out], (HC.out.mono ((HE.out _).drewN S4 _) (by omega))⟩
      · obtain ⟨q, rfl⟩ : ∃ q, a = q + 1 := ⟨a - 1, by omega⟩
        have hga : decide ((q : Int) + 1 > 0) = true := decide_eq_true (by omega)
        have hga2 : (0 : Int) < (q : Int) + 1 := by omega
        have hq3 : (q : Int) < (n : Int) := by omega
        have hq5 : IntKind.i64.wrap (q : Int) = (q : Int) := by rw [IntKind.wrap_i64]; omega
        obtain ⟨x, hx⟩ : ∃ x, x = d3[q]! := ⟨_, rfl⟩
        obtain ⟨y, hy⟩ : ∃ y, y = d3[p2]! := ⟨_, rfl⟩
        have cx := (HE.out _).cell ((HE.out _).drew S4) (q) (by omega)
        have cy := (HE.out _).cell ((HE.out _).drew S4) (p2) (by omega)
        have hc := HC.out.call _ d3 _ ((HE.out _).drew S4) (q) (p2) (by omega) (by omega) (by omega)
        rw [← hx] at cx hc
        rw [← hy] at cy hc
        have HX := hid_mk hx
        have HY := hid_mk hy
        clear hx hy
        cases hlv : (ltc cf) x y with
        | true =>
          have hd : decide (cf x y < 0) = true := hlv
          go_upto_region 17 with fail
          go_region_held3 (fun w' => w'.cell? ⟨blk, q, none⟩ = some (uV x) ∧ w'.cell? ⟨blk, p2, none⟩ = some (uV y)) (first | exact ⟨cx, cy⟩ | exact ⟨by rw [HX.out]; exact (HE.out _).cell S4b (q) (by omega), by rw [HY.out]; exact (HE.out _).cell S4b (p2) (by omega)⟩) (first | (go_at_call 16; refine hc.mono ?_; rintro e w' ⟨rfl, S4b⟩))
          clear cx cy hc S4
          have hZ2 : Hid (Z = false) := by show _ = _; rw [HZ.out, Nat.add_sub_cancel, ← HX.out, ← HY.out, hlv]; simp
          go_wp2_with fail
          go_meet
          case rel => exact ⟨by rw [hZ2.out], (HC.out.mono S4b (by omega))⟩
        | false =>
          have hd : decide (cf x y < 0) = false := hlv
          go_upto_region 17 with fail
          go_region_held3 (fun w' => w'.cell? ⟨blk, q, none⟩ = some (uV x) ∧ w'.cell? ⟨blk, p2, none⟩ = some (uV y)) (first | exact ⟨cx, cy⟩ | exact ⟨by rw [HX.out]; exact (HE.out _).cell S4b (q) (by omega), by rw [HY.out]; exact (HE.out _).cell S4b (p2) (by omega)⟩) (first | (go_at_call 16; refine hc.mono ?_; rintro e w' ⟨rfl, S4b⟩))
          clear cx cy hc S4
          have hZ2 : Hid (Z = true) := by show _ = _; rw [HZ.out, Nat.add_sub_cancel, ← HX.out, ← HY.out, hlv]; simp
          go_wp2_with fail
          go_meet
          case rel => exact ⟨by rw [hZ2.out], (HC.out.mono S4b (by omega))⟩
    case rest => as_aux_lemma =>
    obtain ⟨rfl, S5⟩ := hcut
    clear S4
    cases Z with
    | true =>
      have hZ := HZ.out.symm
      simp only [Bool.and_eq_true, decide_eq_true_eq, Bool.not_eq_true'] at hZ
      obtain ⟨R, hR⟩ : ∃ R, R = Sort.partitionEqual (ltc cf) d3 a b p2 := ⟨_, rfl⟩
      have hc := hPeq.out _ a b p2 d3 _ S5 hp3 hp4 (by omega) (by omega)
      rw [← hR] at hc
      obtain ⟨mid, d4⟩ := R
      have hr := Sort.round_eq HO.out (Sort.partitionEqual_holds _) hZ.1 hp3 hp4 (by rw [hsz3.out]; omega) HB3.out hZ.2 hR.symm
      obtain ⟨hm1, hm2, hs4, hB4, hR4⟩ := hr
      have HB4 := hid_mk hB4
      have HG4 : Hid (∀ R, Sort.PermIn mid b d4 R → Sort.SortedIn (ltc cf) mid b R → Sort.PermIn a0 b0 d R ∧ Sort.SortedIn (ltc cf) a0 b0 R) := fun R x1 x2 => HG.out R (Sort.permIn_trans _ _ _ _ _ HP13.out (hR4 R x1 x2).1) (hR4 R x1 x2).2
      clear hZ hR hB4 hR4 hs4 HZ HG HP13 HB3
      go_wp2_with (first | (go_at_call 41; refine hc.mono ?_; rintro e w' ⟨rfl, S6⟩))
      go_roundg (b - mid)
      case measure => omega
      case rel => exact ⟨mid, b, l2, wb, wp, d4, rfl, rfl, rfl, rfl, rfl, by omega, hm2, hb0, hl2, Nat.le_refl _, (HC.out.mono S6 (by omega)), HB4, HG4⟩
    | false =>
      obtain ⟨R, hR⟩ : ∃ R, R = Sort.partition (ltc cf) d3 a b p2 := ⟨_, rfl⟩
      have hc := hPart.out _ a b p2 d3 _ S5 hp3 hp4 (by omega) (by omega)
      rw [← hR] at hc
      obtain ⟨mid, ap, d4⟩ := R
      have hr := Sort.round_part HO.out (Sort.partition_holds _) hp3 hp4 (by rw [hsz3.out]; omega) HB3.out hR.symm
      obtain ⟨hm1, hm2, hs4, hBl, hBr, hRl, hRr⟩ := hr
      have HBl := hid_mk hBl
      have HBr := hid_mk hBr
      have HRl := hid_mk hRl
      have HRr := hid_mk hRr
      clear hR hBl hBr hRl hRr hs4 HZ HB3
      go_upto_region 21 with (first | (go_at_call 42; refine hc.mono ?_; rintro e w' ⟨rfl, S6⟩))
      clear hc S5
      by_cases hlr : mid - a < b - mid
      · have hlz : (mid : Int) - (a : Int) < (b : Int) - (mid : Int) := by omega
        have hself := IH.out _ a mid l2 d4 _ (by omega) (by omega) hl2 S6 hm1 (by omega) HBl.out
        go_wp2_with (first | (go_at_call 23; refine hself.mono ?_; rintro e w' ⟨L, rfl, hL1, hL2, S7⟩))
        have hq := HRl.out L hL1 hL2
        have HG4 : Hid (∀ R, Sort.PermIn (mid + 1) b L R → Sort.SortedIn (ltc cf) (mid + 1) b R → Sort.PermIn a0 b0 d R ∧ Sort.SortedIn (ltc cf) a0 b0 R) := fun R x1 x2 => HG.out R (Sort.permIn_trans _ _ _ _ _ HP13.out (hq.2 R x1 x2).1) (hq.2 R x1 x2).2
        have HB4 := hid_mk hq.1
        clear hq hL1 hL2
        go_roundg (b - (mid + 1))
        case measure => omega
        case rel => exact ⟨mid + 1, b, l2, _, ap, L, by go_num, rfl, rfl, rfl, rfl, by omega, by omega, hb0, hl2, Nat.le_refl _, (HC.out.mono S7 (by omega)), HB4, HG4⟩
      · have hlz : ¬ (mid : Int) - (a : Int) < (b : Int) - (mid : Int) := by omega
        have hself := IH.out _ (mid + 1) b l2 d4 _ (by omega) (by omega) hl2 S6 (by omega) (by omega) HBr.out
        have hcst : ((mid + 1 : Nat) : Int) = (mid : Int) + 1 := by omega
        rw [hcst] at hself
        clear hcst
        go_wp2_with (first | (go_at_call 23; refine hself.mono ?_; rintro e w' ⟨L, rfl, hL1, hL2, S7⟩))
        have hq := HRr.out L hL1 hL2
        have HG4 : Hid (∀ R, Sort.PermIn a mid L R → Sort.SortedIn (ltc cf) a mid R → Sort.PermIn a0 b0 d R ∧ Sort.SortedIn (ltc cf) a0 b0 R) := fun R x1 x2 => HG.out R (Sort.permIn_trans _ _ _ _ _ HP13.out (hq.2 R x1 x2).1) (hq.2 R x1 x2).2
        have HB4 := hid_mk hq.1
        clear hq hL1 hL2
        go_roundg (mid - a)
        case measure => omega
        case rel => exact ⟨a, mid, l2, _, ap, L, rfl, rfl, rfl, rfl, rfl, ha0, hm1, by omega, hl2, Nat.le_refl _, (HC.out.mono S7 (by omega)), HB4, HG4⟩

end Go.Proofs.Ybulkdkxi.lawS5598AWhole

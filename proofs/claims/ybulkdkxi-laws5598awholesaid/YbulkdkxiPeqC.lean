import Derived.Test.YbulkdkxiEnv
namespace Go.Proofs.Ybulkdkxi.lawS5598AWhole
open Go.RowKit Go.Deep
open Go.Sort (swp size_swp)
set_option linter.unusedVariables false
set_option linter.unusedSimpArgs false

variable {blk n ob db cap : Nat} {cf : Int → Int → Int} {S : Nat → Array Int → World → Prop}

set_option maxRecDepth 100000 in
set_option maxHeartbeats 16000000 in
theorem peq_c (E : ∀ t, Env blk n (S t)) (C : CmpOk n ob db cf S) (hn : n ≤ 4096) (tk : Nat) (a b p : Nat) (d : Array Int) (w : World) (h : S tk d w) (hap : a ≤ p) (hpb : p < b) (hb : b ≤ n) (htk : 34000000 ≤ tk) :
    Calls Yba.prog 41 #[.slice (some ⟨blk, 0, none⟩) n cap, .int .i64 a, .int .i64 b, .int .i64 p, cmpV ob db] w fun e w' => e = .returned (.int .i64 ((Sort.partitionEqual (ltc cf) d a b p).1 : Nat)) ∧ S (tk - (34000000)) (Sort.partitionEqual (ltc cf) d a b p).2 w' := by
  obtain ⟨jb, rfl⟩ : ∃ q, b = q + 1 := ⟨b - 1, by omega⟩
  obtain ⟨R, hR⟩ : ∃ R, R = Sort.partitionEqual (ltc cf) d a (jb + 1) p := ⟨_, rfl⟩
  rw [← hR]
  have HR := hid_mk hR
  clear hR
  have mixed := mixedY
  have HE := hid_mk E
  have HC := hid_mk C
  clear E C
  have hza : (a : Int) < (n : Int) := by omega
  have hzp : (p : Int) < (n : Int) := by omega
  go_enter Yba.func41, Yba.ntmps41
  have S1 := (HE.out _).swapD h (a) (p) (by omega) (by omega)
  obtain ⟨xs, hxs⟩ : ∃ x, x = d[a]! := ⟨_, rfl⟩
  obtain ⟨ys, hys⟩ : ∃ y, y = d[p]! := ⟨_, rfl⟩
  have cx := (HE.out _).cell h (a) (by omega)
  have cy := (HE.out _).cell h (p) (by omega)
  have fx := (HE.out _).frz h (a) (by omega)
  have fy := (HE.out _).frz h (p) (by omega)
  rw [← hxs] at cx S1
  rw [← hys] at cy S1
  obtain ⟨uu, cz⟩ := (HE.out _).again h (a) (p) (by omega) (by omega) (uV ys)
  clear hxs hys h
  go_upto_region 1 with fail
  go_big_region_o
  clear cx cy cz fx fy
  generalize (((w.setCell ⟨blk, a, none⟩ (uV ys)).setCell ⟨blk, p, none⟩ (uV xs)).drew) = w1 at S1 ⊢
  obtain ⟨d1, hd1⟩ : ∃ x, x = swp d a p := ⟨_, rfl⟩
  rw [← hd1] at S1
  have HD1 := hid_mk hd1
  clear hd1
  obtain ⟨i1, hi1⟩ : ∃ i1, i1 = a + 1 := ⟨_, rfl⟩
  have hz1 : ((a : Int) + 1) = (i1 : Int) := by omega
  have HI1 := hid_mk hi1
  have hai1 : a < i1 := by omega
  have hij1 : i1 ≤ jb + 1 := by omega
  clear hi1
  obtain ⟨RL, hRL⟩ : ∃ r, r = Sort.partEqLoop (ltc cf) a i1 jb d1 := ⟨_, rfl⟩
  have HRL := hid_mk hRL
  clear hRL
  go_wp2_with fail
  go_loopg [11, 12] (jb + 1) (fun g1 vi vj wr => ∃ (i j : Nat) (dk : Array Int), vi = .int .i64 i ∧ vj = .int .i64 j ∧ a < i ∧ i ≤ j + 1 ∧ j ≤ jb ∧ j + 1 - i ≤ g1 ∧ S (tk - ((i - a) * 8200)) dk wr ∧ Hid (Sort.partEqLoop (ltc cf) a i j dk = RL))
  case atStart => exact ⟨i1, jb, d1, by go_num, by go_num, by omega, by omega, by omega, by omega, (HC.out.mono S1 (by omega)), HRL.out.symm⟩
  case round =>
    clear S1
    obtain ⟨i, j, dk, rfl, rfl, hai, hij, hjj, hg1, SK, HL⟩ := hrel
    obtain ⟨i4, hi4⟩ : ∃ r, r = Sort.scanUp (fun z => !(ltc cf) dk[a]! z) dk j i := ⟨_, rfl⟩
    have Hi4 := hid_mk hi4
    clear hi4
    go_upto_block 2 with fail
    go_cut [11] (fun s wx => s = .int .i64 (i4 : Nat) ∧ S (tk - ((i - a) * 8200 + 4100)) dk wx ∧ i ≤ i4 ∧ i4 ≤ j + 1)
    case first => as_aux_lemma =>
      go_wp2_with fail
      go_loopg [11] (j + 1 - i) (fun g1 vi wr => ∃ p1 : Nat, vi = .int .i64 p1 ∧ i ≤ p1 ∧ p1 ≤ j + 1 ∧ j + 1 - p1 ≤ g1 ∧ S (tk - ((i - a) * 8200 + (p1 - i))) dk wr ∧ Hid (Sort.scanUp (fun z => !(ltc cf) dk[a]! z) dk j p1 = i4))
      case atStart => exact ⟨i, by go_num, Nat.le_refl _, by omega, by omega, (HC.out.mono SK (by omega)), Hi4.out.symm⟩
      case round =>
        clear SK
        obtain ⟨p1, rfl, hp1, hp2, hg1, SJ, HS⟩ := hrel
        by_cases hle : p1 ≤ j
        · have hle1 : (p1 : Int) ≤ (j : Int) := by omega
          have hle2 : decide ((p1 : Int) ≤ (j : Int)) = true := decide_eq_true hle1
          have hb1 : (p1 : Int) < (n : Int) := by omega
          have hb2 : (a : Int) < (n : Int) := by omega
          obtain ⟨x, hx⟩ : ∃ x, x = dk[a]! := ⟨_, rfl⟩
          obtain ⟨y, hy⟩ : ∃ y, y = dk[p1]! := ⟨_, rfl⟩
          have cx := (HE.out _).cell ((HE.out _).drew SJ) (a) (by omega)
          have cy := (HE.out _).cell ((HE.out _).drew SJ) (p1) (by omega)
          have hc := HC.out.call _ dk _ ((HE.out _).drew SJ) (a) (p1) (by omega) (by omega) (by omega)
          rw [← hx] at cx hc
          rw [← hy] at cy hc
          have HX := hid_mk hx
          have HY := hid_mk hy
          clear hx hy
          cases hlv : (ltc cf) x y with
          | false =>
            have hd : decide (cf x y < 0) = false := hlv
            go_upto_region 3 with fail
            go_region_held3 (fun w' => w'.cell? ⟨blk, a, none⟩ = some (uV x) ∧ w'.cell? ⟨blk, p1, none⟩ = some (uV y)) (first | exact ⟨cx, cy⟩ | exact ⟨by rw [HX.out]; exact (HE.out _).cell S2 (a) (by omega), by rw [HY.out]; exact (HE.out _).cell S2 (p1) (by omega)⟩) (first | (go_at_call 16; refine hc.mono ?_; rintro e w' ⟨rfl, S2⟩))
            clear cx cy hc SJ
            go_wp2_with fail
            go_roundg (j - p1)
            case measure => omega
            case rel => exact ⟨p1 + 1, by go_num, by omega, by omega, by omega, (HC.out.mono S2 (by omega)), (show Hid _ from (scanUp_go _ _ _ _ hle (by show (!(ltc cf) _ _) = true; rw [← HX.out, ← HY.out, hlv]; rfl)).symm.trans HS.out)⟩
          | true =>
            have hd : decide (cf x y < 0) = true := hlv
            go_upto_region 3 with fail
            go_region_held3 (fun w' => w'.cell? ⟨blk, a, none⟩ = some (uV x) ∧ w'.cell? ⟨blk, p1, none⟩ = some (uV y)) (first | exact ⟨cx, cy⟩ | exact ⟨by rw [HX.out]; exact (HE.out _).cell S2 (a) (by omega), by rw [HY.out]; exact (HE.out _).cell S2 (p1) (by omega)⟩) (first | (go_at_call 16; refine hc.mono ?_; rintro e w' ⟨rfl, S2⟩))
            clear cx cy hc SJ
            have hr : Hid (p1 = i4) := (scanUp_end _ _ _ _ (Or.inr (by show (!(ltc cf) _ _) = false; rw [← HX.out, ← HY.out, hlv]; rfl))).symm.trans HS.out
            go_wp2_with fail
            go_meet
            case rel => exact ⟨by rw [hr.out], (HC.out.mono S2 (by omega)), by have := hr.out; omega, by have := hr.out; omega⟩
        · have hle1 : ¬ (p1 : Int) ≤ (j : Int) := by omega
          have hle2 : decide ((p1 : Int) ≤ (j : Int)) = false := decide_eq_false hle1
          have hle3 : decide (p1 ≤ j) = false := decide_eq_false hle
          have hr : Hid (p1 = i4) := (scanUp_end _ _ _ _ (Or.inl hle)).symm.trans HS.out
          go_upto_region 3 with fail
          go_quiet (fail)
          go_wp2_with fail
          go_meet
          case rel => exact ⟨by rw [hr.out], (HC.out.mono ((HE.out _).drewN SJ _) (by omega)), by have := hr.out; omega, by have := hr.out; omega⟩
    case rest => as_aux_lemma =>
      obtain ⟨rfl, SU, hgei4, hlei4⟩ := hcut
      clear SK
      obtain ⟨j4, hj4⟩ : ∃ r, r = Sort.scanDown (fun z => (ltc cf) dk[a]! z) dk i4 j := ⟨_, rfl⟩
      have Hj4 := hid_mk hj4
      clear hj4
      go_upto_block 4 with fail
      go_cut [12] (fun s wx => s = .int .i64 (j4 : Nat) ∧ S (tk - ((i - a) * 8200 + 4100 + 4100)) dk wx ∧ i4 ≤ j4 + 1 ∧ j4 ≤ j)
      case first => as_aux_lemma =>
        go_wp2_with fail
        go_loopg [12] (j + 1) (fun g1 vi wr => ∃ p1 : Nat, vi = .int .i64 p1 ∧ i4 ≤ p1 + 1 ∧ p1 ≤ j ∧ p1 ≤ g1 ∧ S (tk - ((i - a) * 8200 + 4100 + (j - p1))) dk wr ∧ Hid (Sort.scanDown (fun z => (ltc cf) dk[a]! z) dk i4 p1 = j4))
        case atStart => exact ⟨j, by go_num, by omega, Nat.le_refl _, by omega, (HC.out.mono SU (by omega)), Hj4.out.symm⟩
        case round =>
          clear SU
          obtain ⟨p1, rfl, hp1, hp2, hg1, SJ, HS⟩ := hrel
          by_cases hle : i4 ≤ p1
          · obtain ⟨q, rfl⟩ : ∃ q, p1 = q + 1 := ⟨p1 - 1, by omega⟩
            have hle1 : (i4 : Int) ≤ (q : Int) + 1 := by omega
            have hle2 : decide ((i4 : Int) ≤ (q : Int) + 1) = true := decide_eq_true hle1
            have hq0 : ((q : Int) + 1).toNat = q + 1 := by omega
            have hq1 : (0 : Int) ≤ (q : Int) + 1 := by omega
            have hq2 : (q : Int) + 1 < (n : Int) := by omega
            have hb2 : (a : Int) < (n : Int) := by omega
            obtain ⟨x, hx⟩ : ∃ x, x = dk[a]! := ⟨_, rfl⟩
            obtain ⟨y, hy⟩ : ∃ y, y = dk[q + 1]! := ⟨_, rfl⟩
            have cx := (HE.out _).cell ((HE.out _).drew SJ) (a) (by omega)
            have cy := (HE.out _).cell ((HE.out _).drew SJ) (q + 1) (by omega)
            have hc := HC.out.call _ dk _ ((HE.out _).drew SJ) (a) (q + 1) (by omega) (by omega) (by omega)
            rw [← hx] at cx hc
            rw [← hy] at cy hc
            have HX := hid_mk hx
            have HY := hid_mk hy
            clear hx hy
            cases hlv : (ltc cf) x y with
            | true =>
              have hd : decide (cf x y < 0) = true := hlv
              go_upto_region 5 with fail
              go_region_held3 (fun w' => w'.cell? ⟨blk, a, none⟩ = some (uV x) ∧ w'.cell? ⟨blk, q + 1, none⟩ = some (uV y)) (first | exact ⟨cx, cy⟩ | exact ⟨by rw [HX.out]; exact (HE.out _).cell S2 (a) (by omega), by rw [HY.out]; exact (HE.out _).cell S2 (q + 1) (by omega)⟩) (first | (go_at_call 16; refine hc.mono ?_; rintro e w' ⟨rfl, S2⟩))
              clear cx cy hc SJ
              go_wp2_with fail
              go_roundg q
              case measure => omega
              case rel => exact ⟨q, by go_num, by omega, by omega, Nat.le_refl _, (HC.out.mono S2 (by omega)), (show Hid _ from (scanDown_go _ _ _ (q + 1) hle (by omega) (by show (ltc cf) _ _ = true; rw [← HX.out, ← HY.out]; exact hlv)).symm.trans HS.out)⟩
            | false =>
              have hd : decide (cf x y < 0) = false := hlv
              go_upto_region 5 with fail
              go_region_held3 (fun w' => w'.cell? ⟨blk, a, none⟩ = some (uV x) ∧ w'.cell? ⟨blk, q + 1, none⟩ = some (uV y)) (first | exact ⟨cx, cy⟩ | exact ⟨by rw [HX.out]; exact (HE.out _).cell S2 (a) (by omega), by rw [HY.out]; exact (HE.out _).cell S2 (q + 1) (by omega)⟩) (first | (go_at_call 16; refine hc.mono ?_; rintro e w' ⟨rfl, S2⟩))
              clear cx cy hc SJ
              have hr : Hid (q + 1 = j4) := (scanDown_end _ _ _ _ (Or.inr (by show (ltc cf) _ _ = false; rw [← HX.out, ← HY.out]; exact hlv))).symm.trans HS.out
              go_wp2_with fail
              go_meet
              case rel => exact ⟨by rw [← hr.out]; go_num, (HC.out.mono S2 (by omega)), by have := hr.out; omega, by have := hr.out; omega⟩
          · have hle1 : ¬ (i4 : Int) ≤ (p1 : Int) := by omega
            have hle2 : decide ((i4 : Int) ≤ (p1 : Int)) = false := decide_eq_false hle1
            have hle3 : decide (i4 ≤ p1) = false := decide_eq_false hle
            have hr : Hid (p1 = j4) := (scanDown_end _ _ _ _ (Or.inl hle)).symm.trans HS.out
            go_upto_region 5 with fail
            go_quiet (fail)
            go_wp2_with fail
            go_meet
            case rel => exact ⟨by rw [hr.out], (HC.out.mono ((HE.out _).drewN SJ _) (by omega)), by have := hr.out; omega, by have := hr.out; omega⟩
      case rest => as_aux_lemma =>
        obtain ⟨rfl, SD, hgej4, hlej4⟩ := hcut
        clear SU
        by_cases hgt : j4 < i4
        · have hgt1 : (j4 : Int) < (i4 : Int) := by omega
          have hzj : (j4 : Int) < (n : Int) := by omega
          have hend : Hid (RL = (i4, dk)) := by
            show RL = _
            rw [← HL.out, Sort.partEqLoop_eq, ← Hi4.out, ← Hj4.out, if_pos hgt]
          go_wp2_with fail
          go_ret
          have hfin : R = RL := by
            rw [HR.out, HRL.out]
            unfold Sort.partitionEqual
            rw [← HD1.out, ← HI1.out, Nat.add_sub_cancel]
          rw [hfin, hend.out]
          exact ⟨rfl, (HC.out.mono SD (by omega))⟩
        · have hstep : Hid (RL = Sort.partEqLoop (ltc cf) a (i4 + 1) (j4 - 1) (swp dk i4 j4)) := by
            show RL = _
            rw [← HL.out, Sort.partEqLoop_eq, ← Hi4.out, ← Hj4.out, if_neg hgt]
          have hgt1 : ¬ (j4 : Int) < (i4 : Int) := by omega
          have hzi : (i4 : Int) < (n : Int) := by omega
          have hlt3 : i4 < j4 := scan_lt _ _ (fun _ => by simp) _ _ _ _ _ Hi4.out Hj4.out (by omega) (by omega)
          obtain ⟨q4, rfl⟩ : ∃ q, j4 = q + 1 := ⟨j4 - 1, by omega⟩
          have hq0 : ((q4 : Int) + 1).toNat = q4 + 1 := by omega
          have hq1 : (0 : Int) ≤ (q4 : Int) + 1 := by omega
          have hgt2 : ¬ (q4 : Int) + 1 < (i4 : Int) := by omega
          have hzj2 : (q4 : Int) + 1 < (n : Int) := by omega
          have S5 := (HE.out _).swapD SD (i4) (q4 + 1) (by omega) (by omega)
          obtain ⟨xs, hxs⟩ : ∃ x, x = dk[i4]! := ⟨_, rfl⟩
          obtain ⟨ys, hys⟩ : ∃ y, y = dk[q4 + 1]! := ⟨_, rfl⟩
          have cx := (HE.out _).cell SD (i4) (by omega)
          have cy := (HE.out _).cell SD (q4 + 1) (by omega)
          have fx := (HE.out _).frz SD (i4) (by omega)
          have fy := (HE.out _).frz SD (q4 + 1) (by omega)
          rw [← hxs] at cx S5
          rw [← hys] at cy S5
          obtain ⟨uu, cz⟩ := (HE.out _).again SD (i4) (q4 + 1) (by omega) (by omega) (uV ys)
          clear hxs hys SD
          go_upto_region 8 with fail
          go_big_region_o
          clear cx cy cz fx fy
          generalize (((wc.setCell ⟨blk, i4, none⟩ (uV ys)).setCell ⟨blk, q4 + 1, none⟩ (uV xs)).drew) = w5 at S5 ⊢
          go_wp2_with fail
          go_roundg (j - i)
          case measure => omega
          case rel => exact ⟨i4 + 1, q4, swp dk i4 (q4 + 1), by go_num, by go_num, by omega, by omega, by omega, by omega, (HC.out.mono S5 (by omega)), (show Hid _ from hstep.out.symm)⟩

end Go.Proofs.Ybulkdkxi.lawS5598AWhole

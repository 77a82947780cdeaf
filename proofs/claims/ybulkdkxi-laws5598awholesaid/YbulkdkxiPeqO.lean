import Derived.Test.YbulkdkxiEnv
namespace Go.Proofs.Ybulkdkxi.lawS5598AWhole
open Go.RowKit Go.Deep
open Go.Sort (swp size_swp)
set_option linter.unusedVariables false
set_option linter.unusedSimpArgs false

variable {blk n cap : Nat} {lt : Int → Int → Bool} {S : Array Int → World → Prop}

set_option maxRecDepth 100000 in
set_option maxHeartbeats 16000000 in
theorem peq_o (E : Env blk n S) (C : LessOk n lt S) (hn : n ≤ 4096) (a b p : Nat) (d : Array Int) (w : World) (h : S d w) (hap : a ≤ p) (hpb : p < b) (hb : b ≤ n) :
    Calls Yba.prog 30 #[.slice (some ⟨blk, 0, none⟩) n cap, .int .i64 a, .int .i64 b, .int .i64 p] w fun e w' => e = .returned (.int .i64 ((Sort.partitionEqual lt d a b p).1 : Nat)) ∧ S (Sort.partitionEqual lt d a b p).2 w' := by
  obtain ⟨jb, rfl⟩ : ∃ q, b = q + 1 := ⟨b - 1, by omega⟩
  obtain ⟨R, hR⟩ : ∃ R, R = Sort.partitionEqual lt d a (jb + 1) p := ⟨_, rfl⟩
  rw [← hR]
  have HR := hid_mk hR
  clear hR
  have mixed := mixedY
  have HE := hid_mk E
  have HC := hid_mk C
  clear E C
  have hza : (a : Int) < (n : Int) := by omega
  have hzp : (p : Int) < (n : Int) := by omega
  go_enter Yba.func30, Yba.ntmps30
  have S1 := HE.out.swapD h (a) (p) (by omega) (by omega)
  obtain ⟨xs, hxs⟩ : ∃ x, x = d[a]! := ⟨_, rfl⟩
  obtain ⟨ys, hys⟩ : ∃ y, y = d[p]! := ⟨_, rfl⟩
  have cx := HE.out.cell h (a) (by omega)
  have cy := HE.out.cell h (p) (by omega)
  have fx := HE.out.frz h (a) (by omega)
  have fy := HE.out.frz h (p) (by omega)
  rw [← hxs] at cx S1
  rw [← hys] at cy S1
  obtain ⟨uu, cz⟩ := HE.out.again h (a) (p) (by omega) (by omega) (uV ys)
  clear hxs hys h
  go_upto_region 1 with fail
  go_big_region_o
  clear cx cy cz fx fy
  generalize (((w.setCell ⟨blk, a, none⟩ (uV ys)).setCell ⟨blk, p, none⟩ (uV xs)).drew) = w1 at S1 ⊢
  obtain ⟨d1, hd1⟩ : ∃ x, x = swp d a p := ⟨_, rfl⟩
  rw [← hd1] at S1
  have HD1 := hid_mk hd1
  clear hd1
  obtain ⟨i1, hi1⟩ : ∃ i1, i1 = a + 1 := ⟨_, rfl⟩
  have hz1 : ((a : Int) + 1) = (i1 : Int) := by omega
  have HI1 := hid_mk hi1
  have hai1 : a < i1 := by omega
  have hij1 : i1 ≤ jb + 1 := by omega
  clear hi1
  obtain ⟨RL, hRL⟩ : ∃ r, r = Sort.partEqLoop lt a i1 jb d1 := ⟨_, rfl⟩
  have HRL := hid_mk hRL
  clear hRL
  go_wp2_with fail
  go_loopg [9, 10] (jb + 1) (fun g1 vi vj wr => ∃ (i j : Nat) (dk : Array Int), vi = .int .i64 i ∧ vj = .int .i64 j ∧ a < i ∧ i ≤ j + 1 ∧ j ≤ jb ∧ j + 1 - i ≤ g1 ∧ S dk wr ∧ Hid (Sort.partEqLoop lt a i j dk = RL))
  case atStart => exact ⟨i1, jb, d1, by go_num, by go_num, by omega, by omega, by omega, by omega, S1, HRL.out.symm⟩
  case round =>
    clear S1
    obtain ⟨i, j, dk, rfl, rfl, hai, hij, hjj, hg1, SK, HL⟩ := hrel
    obtain ⟨i4, hi4⟩ : ∃ r, r = Sort.scanUp (fun z => !lt dk[a]! z) dk j i := ⟨_, rfl⟩
    have Hi4 := hid_mk hi4
    clear hi4
    go_upto_block 2 with fail
    go_cut [9] (fun s wx => s = .int .i64 (i4 : Nat) ∧ S dk wx ∧ i ≤ i4 ∧ i4 ≤ j + 1)
    case first => as_aux_lemma =>
      go_wp2_with fail
      go_loopg [9] (j + 1 - i) (fun g1 vi wr => ∃ p1 : Nat, vi = .int .i64 p1 ∧ i ≤ p1 ∧ p1 ≤ j + 1 ∧ j + 1 - p1 ≤ g1 ∧ S dk wr ∧ Hid (Sort.scanUp (fun z => !lt dk[a]! z) dk j p1 = i4))
      case atStart => exact ⟨i, by go_num, Nat.le_refl _, by omega, by omega, SK, Hi4.out.symm⟩
      case round =>
        clear SK
        obtain ⟨p1, rfl, hp1, hp2, hg1, SJ, HS⟩ := hrel
        by_cases hle : p1 ≤ j
        · have hle1 : (p1 : Int) ≤ (j : Int) := by omega
          have hle2 : decide ((p1 : Int) ≤ (j : Int)) = true := decide_eq_true hle1
          have hb1 : (p1 : Int) < (n : Int) := by omega
          have hb2 : (a : Int) < (n : Int) := by omega
          obtain ⟨x, hx⟩ : ∃ x, x = dk[a]! := ⟨_, rfl⟩
          obtain ⟨y, hy⟩ : ∃ y, y = dk[p1]! := ⟨_, rfl⟩
          have cx := HE.out.cell (HE.out.drew SJ) (a) (by omega)
          have cy := HE.out.cell (HE.out.drew SJ) (p1) (by omega)
          have hc := HC.out.call dk _ (HE.out.drew SJ) (a) (p1) (by omega) (by omega)
          rw [← hx] at cx hc
          rw [← hy] at cy hc
          have HX := hid_mk hx
          have HY := hid_mk hy
          clear hx hy
          cases hlv : lt x y with
          | false =>
            go_upto_region 3 with fail
            go_region_held3 (fun w' => w'.cell? ⟨blk, a, none⟩ = some (uV x) ∧ w'.cell? ⟨blk, p1, none⟩ = some (uV y)) (first | exact ⟨cx, cy⟩ | exact ⟨by rw [HX.out]; exact HE.out.cell S2 (a) (by omega), by rw [HY.out]; exact HE.out.cell S2 (p1) (by omega)⟩) (first | (go_at_call 20; refine hc.mono ?_; rintro e w' ⟨rfl, S2⟩))
            clear cx cy hc SJ
            go_wp2_with fail
            go_roundg (j - p1)
            case measure => omega
            case rel => exact ⟨p1 + 1, by go_num, by omega, by omega, by omega, S2, (show Hid _ from (scanUp_go _ _ _ _ hle (by show (!lt _ _) = true; rw [← HX.out, ← HY.out, hlv]; rfl)).symm.trans HS.out)⟩
          | true =>
            go_upto_region 3 with fail
            go_region_held3 (fun w' => w'.cell? ⟨blk, a, none⟩ = some (uV x) ∧ w'.cell? ⟨blk, p1, none⟩ = some (uV y)) (first | exact ⟨cx, cy⟩ | exact ⟨by rw [HX.out]; exact HE.out.cell S2 (a) (by omega), by rw [HY.out]; exact HE.out.cell S2 (p1) (by omega)⟩) (first | (go_at_call 20; refine hc.mono ?_; rintro e w' ⟨rfl, S2⟩))
            clear cx cy hc SJ
            have hr : Hid (p1 = i4) := (scanUp_end _ _ _ _ (Or.inr (by show (!lt _ _) = false; rw [← HX.out, ← HY.out, hlv]; rfl))).symm.trans HS.out
            go_wp2_with fail
            go_meet
            case rel => exact ⟨by rw [hr.out], S2, by have := hr.out; omega, by have := hr.out; omega⟩
        · have hle1 : ¬ (p1 : Int) ≤ (j : Int) := by omega
          have hle2 : decide ((p1 : Int) ≤ (j : Int)) = false := decide_eq_false hle1
          have hle3 : decide (p1 ≤ j) = false := decide_eq_false hle
          have hr : Hid (p1 = i4) := (scanUp_end _ _ _ _ (Or.inl hle)).symm.trans HS.out
          go_upto_region 3 with fail
          go_quiet (fail)
          go_wp2_with fail
          go_meet
          case rel => exact ⟨by rw [hr.out], HE.out.drewN SJ _, by have := hr.out; omega, by have := hr.out; omega⟩
    case rest => as_aux_lemma =>
      obtain ⟨rfl, SU, hgei4, hlei4⟩ := hcut
      clear SK
      obtain ⟨j4, hj4⟩ : ∃ r, r = Sort.scanDown (fun z => lt dk[a]! z) dk i4 j := ⟨_, rfl⟩
      have Hj4 := hid_mk hj4
      clear hj4
      go_upto_block 4 with fail
      go_cut [10] (fun s wx => s = .int .i64 (j4 : Nat) ∧ S dk wx ∧ i4 ≤ j4 + 1 ∧ j4 ≤ j)
      case first => as_aux_lemma =>
        go_wp2_with fail
        go_loopg [10] (j + 1) (fun g1 vi wr => ∃ p1 : Nat, vi = .int .i64 p1 ∧ i4 ≤ p1 + 1 ∧ p1 ≤ j ∧ p1 ≤ g1 ∧ S dk wr ∧ Hid (Sort.scanDown (fun z => lt dk[a]! z) dk i4 p1 = j4))
        case atStart => exact ⟨j, by go_num, by omega, Nat.le_refl _, by omega, SU, Hj4.out.symm⟩
        case round =>
          clear SU
          obtain ⟨p1, rfl, hp1, hp2, hg1, SJ, HS⟩ := hrel
          by_cases hle : i4 ≤ p1
          · obtain ⟨q, rfl⟩ : ∃ q, p1 = q + 1 := ⟨p1 - 1, by omega⟩
            have hle1 : (i4 : Int) ≤ (q : Int) + 1 := by omega
            have hle2 : decide ((i4 : Int) ≤ (q : Int) + 1) = true := decide_eq_true hle1
            have hq0 : ((q : Int) + 1).toNat = q + 1 := by omega
            have hq1 : (0 : Int) ≤ (q : Int) + 1 := by omega
            have hq2 : (q : Int) + 1 < (n : Int) := by omega
            have hb2 : (a : Int) < (n : Int) := by omega
            obtain ⟨x, hx⟩ : ∃ x, x = dk[a]! := ⟨_, rfl⟩
            obtain ⟨y, hy⟩ : ∃ y, y = dk[q + 1]! := ⟨_, rfl⟩
            have cx := HE.out.cell (HE.out.drew SJ) (a) (by omega)
            have cy := HE.out.cell (HE.out.drew SJ) (q + 1) (by omega)
            have hc := HC.out.call dk _ (HE.out.drew SJ) (a) (q + 1) (by omega) (by omega)
            rw [← hx] at cx hc
            rw [← hy] at cy hc
            have HX := hid_mk hx
            have HY := hid_mk hy
            clear hx hy
            cases hlv : lt x y with
            | true =>
              go_upto_region 5 with fail
              go_region_held3 (fun w' => w'.cell? ⟨blk, a, none⟩ = some (uV x) ∧ w'.cell? ⟨blk, q + 1, none⟩ = some (uV y)) (first | exact ⟨cx, cy⟩ | exact ⟨by rw [HX.out]; exact HE.out.cell S2 (a) (by omega), by rw [HY.out]; exact HE.out.cell S2 (q + 1) (by omega)⟩) (first | (go_at_call 20; refine hc.mono ?_; rintro e w' ⟨rfl, S2⟩))
              clear cx cy hc SJ
              go_wp2_with fail
              go_roundg q
              case measure => omega
              case rel => exact ⟨q, by go_num, by omega, by omega, Nat.le_refl _, S2, (show Hid _ from (scanDown_go _ _ _ (q + 1) hle (by omega) (by show lt _ _ = true; rw [← HX.out, ← HY.out]; exact hlv)).symm.trans HS.out)⟩
            | false =>
              go_upto_region 5 with fail
              go_region_held3 (fun w' => w'.cell? ⟨blk, a, none⟩ = some (uV x) ∧ w'.cell? ⟨blk, q + 1, none⟩ = some (uV y)) (first | exact ⟨cx, cy⟩ | exact ⟨by rw [HX.out]; exact HE.out.cell S2 (a) (by omega), by rw [HY.out]; exact HE.out.cell S2 (q + 1) (by omega)⟩) (first | (go_at_call 20; refine hc.mono ?_; rintro e w' ⟨rfl, S2⟩))
              clear cx cy hc SJ
              have hr : Hid (q + 1 = j4) := (scanDown_end _ _ _ _ (Or.inr (by show lt _ _ = false; rw [← HX.out, ← HY.out]; exact hlv))).symm.trans HS.out
              go_wp2_with fail
              go_meet
              case rel => exact ⟨by rw [← hr.out]; go_num, S2, by have := hr.out; omega, by have := hr.out; omega⟩
          · have hle1 : ¬ (i4 : Int) ≤ (p1 : Int) := by omega
            have hle2 : decide ((i4 : Int) ≤ (p1 : Int)) = false := decide_eq_false hle1
            have hle3 : decide (i4 ≤ p1) = false := decide_eq_false hle
            have hr : Hid (p1 = j4) := (scanDown_end _ _ _ _ (Or.inl hle)).symm.trans HS.out
            go_upto_region 5 with fail
            go_quiet (fail)
            go_wp2_with fail
            go_meet
            case rel => exact ⟨by rw [hr.out], HE.out.drewN SJ _, by have := hr.out; omega, by have := hr.out; omega⟩
      case rest => as_aux_lemma =>
        obtain ⟨rfl, SD, hgej4, hlej4⟩ := hcut
        clear SU
        by_cases hgt : j4 < i4
        · have hgt1 : (j4 : Int) < (i4 : Int) := by omega
          have hzj : (j4 : Int) < (n : Int) := by omega
          have hend : Hid (RL = (i4, dk)) := by
            show RL = _
            rw [← HL.out, Sort.partEqLoop_eq, ← Hi4.out, ← Hj4.out, if_pos hgt]
          go_wp2_with fail
          go_ret
          have hfin : R = RL := by
            rw [HR.out, HRL.out]
            unfold Sort.partitionEqual
            rw [← HD1.out, ← HI1.out, Nat.add_sub_cancel]
          rw [hfin, hend.out]
          exact ⟨rfl, SD⟩
        · have hstep : Hid (RL = Sort.partEqLoop lt a (i4 + 1) (j4 - 1) (swp dk i4 j4)) := by
            show RL = _
            rw [← HL.out, Sort.partEqLoop_eq, ← Hi4.out, ← Hj4.out, if_neg hgt]
          have hgt1 : ¬ (j4 : Int) < (i4 : Int) := by omega
          have hzi : (i4 : Int) < (n : Int) := by omega
          have hlt3 : i4 < j4 := scan_lt _ _ (fun _ => by simp) _ _ _ _ _ Hi4.out Hj4.out (by omega) (by omega)
          obtain ⟨q4, rfl⟩ : ∃ q, j4 = q + 1 := ⟨j4 - 1, by omega⟩
          have hq0 : ((q4 : Int) + 1).toNat = q4 + 1 := by omega
          have hq1 : (0 : Int) ≤ (q4 : Int) + 1 := by omega
          have hgt2 : ¬ (q4 : Int) + 1 < (i4 : Int) := by omega
          have hzj2 : (q4 : Int) + 1 < (n : Int) := by omega
          have S5 := HE.out.swapD SD (i4) (q4 + 1) (by omega) (by omega)
          obtain ⟨xs, hxs⟩ : ∃ x, x = dk[i4]! := ⟨_, rfl⟩
          obtain ⟨ys, hys⟩ : ∃ y, y = dk[q4 + 1]! := ⟨_, rfl⟩
          have cx := HE.out.cell SD (i4) (by omega)
          have cy := HE.out.cell SD (q4 + 1) (by omega)
          have fx := HE.out.frz SD (i4) (by omega)
          have fy := HE.out.frz SD (q4 + 1) (by omega)
          rw [← hxs] at cx S5
          rw [← hys] at cy S5
          obtain ⟨uu, cz⟩ := HE.out.again SD (i4) (q4 + 1) (by omega) (by omega) (uV ys)
          clear hxs hys SD
          go_upto_region 8 with fail
          go_big_region_o
          clear cx cy cz fx fy
          generalize (((wc.setCell ⟨blk, i4, none⟩ (uV ys)).setCell ⟨blk, q4 + 1, none⟩ (uV xs)).drew) = w5 at S5 ⊢
          go_wp2_with fail
          go_roundg (j - i)
          case measure => omega
          case rel => exact ⟨i4 + 1, q4, swp dk i4 (q4 + 1), by go_num, by go_num, by omega, by omega, by omega, by omega, S5, (show Hid _ from hstep.out.symm)⟩

end Go.Proofs.Ybulkdkxi.lawS5598AWhole

import Derived.Test.YbulkdkxiEnv
namespace Go.Proofs.Ybulkdkxi.lawS5598AWhole
open Go.RowKit Go.Deep
open Go.Sort (swp size_swp)
set_option linter.unusedVariables false
set_option linter.unusedSimpArgs false

variable {blk n cap : Nat} {lt : Int → Int → Bool} {S : Array Int → World → Prop}

set_option maxRecDepth 100000 in
set_option maxHeartbeats 16000000 in
theorem part_o (E : Env blk n S) (C : LessOk n lt S) (hn : n ≤ 4096) (a b p : Nat) (d : Array Int) (w : World) (h : S d w) (hap : a ≤ p) (hpb : p < b) (hb : b ≤ n) :
    Calls Yba.prog 31 #[.slice (some ⟨blk, 0, none⟩) n cap, .int .i64 a, .int .i64 b, .int .i64 p] w fun e w' => e = .returned (.tuple #[.int .i64 ((Sort.partition lt d a b p).1 : Nat), .bool (Sort.partition lt d a b p).2.1]) ∧ S (Sort.partition lt d a b p).2.2 w' := by
  obtain ⟨jb, rfl⟩ : ∃ q, b = q + 1 := ⟨b - 1, by omega⟩
  obtain ⟨R, hR⟩ : ∃ R, R = Sort.partition lt d a (jb + 1) p := ⟨_, rfl⟩
  rw [← hR]
  have HR := hid_mk hR
  clear hR
  have mixed := mixedY
  have HE := hid_mk E
  have HC := hid_mk C
  clear E C
  have hza : (a : Int) < (n : Int) := by omega
  have hzp : (p : Int) < (n : Int) := by omega
  go_enter Yba.func31, Yba.ntmps31
  have S1 := HE.out.swapD h (a) (p) (by omega) (by omega)
  obtain ⟨xs, hxs⟩ : ∃ x, x = d[a]! := ⟨_, rfl⟩
  obtain ⟨ys, hys⟩ : ∃ y, y = d[p]! := ⟨_, rfl⟩
  have cx := HE.out.cell h (a) (by omega)
  have cy := HE.out.cell h (p) (by omega)
  have fx := HE.out.frz h (a) (by omega)
  have fy := HE.out.frz h (p) (by omega)
  rw [← hxs] at cx S1
  rw [← hys] at cy S1
  obtain ⟨uu, cz⟩ := HE.out.again h (a) (p) (by omega) (by omega) (uV ys)
  clear hxs hys h
  go_upto_region 1 with fail
  go_big_region_o
  clear cx cy cz fx fy
  generalize (((w.setCell ⟨blk, a, none⟩ (uV ys)).setCell ⟨blk, p, none⟩ (uV xs)).drew) = w1 at S1 ⊢
  obtain ⟨d1, hd1⟩ : ∃ x, x = swp d a p := ⟨_, rfl⟩
  rw [← hd1] at S1
  have HD1 := hid_mk hd1
  clear hd1
  obtain ⟨i1, hi1⟩ : ∃ i1, i1 = a + 1 := ⟨_, rfl⟩
  have hz1 : ((a : Int) + 1) = (i1 : Int) := by omega
  have HI1 := hid_mk hi1
  have hai1 : a < i1 := by omega
  have hij1 : i1 ≤ jb + 1 := by omega
  clear hi1
  obtain ⟨i2, hi2⟩ : ∃ r, r = Sort.scanUp (fun z => lt z d1[a]!) d1 jb i1 := ⟨_, rfl⟩
  have Hi2 := hid_mk hi2
  clear hi2
  go_upto_block 0 with fail
  go_cut [10] (fun s wx => s = .int .i64 (i2 : Nat) ∧ S d1 wx ∧ i1 ≤ i2 ∧ i2 ≤ jb + 1)
  case first => as_aux_lemma =>
    go_wp2_with fail
    go_loopg [10] (jb + 1 - i1) (fun g1 vi wr => ∃ p1 : Nat, vi = .int .i64 p1 ∧ i1 ≤ p1 ∧ p1 ≤ jb + 1 ∧ jb + 1 - p1 ≤ g1 ∧ S d1 wr ∧ Hid (Sort.scanUp (fun z => lt z d1[a]!) d1 jb p1 = i2))
    case atStart => exact ⟨i1, by go_num, Nat.le_refl _, by omega, by omega, S1, Hi2.out.symm⟩
    case round =>
      clear S1
      obtain ⟨p1, rfl, hp1, hp2, hg1, SJ, HS⟩ := hrel
      by_cases hle : p1 ≤ jb
      · have hle1 : (p1 : Int) ≤ (jb : Int) := by omega
        have hle2 : decide ((p1 : Int) ≤ (jb : Int)) = true := decide_eq_true hle1
        have hb1 : (p1 : Int) < (n : Int) := by omega
        have hb2 : (a : Int) < (n : Int) := by omega
        obtain ⟨x, hx⟩ : ∃ x, x = d1[p1]! := ⟨_, rfl⟩
        obtain ⟨y, hy⟩ : ∃ y, y = d1[a]! := ⟨_, rfl⟩
        have cx := HE.out.cell (HE.out.drew SJ) (p1) (by omega)
        have cy := HE.out.cell (HE.out.drew SJ) (a) (by omega)
        have hc := HC.out.call d1 _ (HE.out.drew SJ) (p1) (a) (by omega) (by omega)
        rw [← hx] at cx hc
        rw [← hy] at cy hc
        have HX := hid_mk hx
        have HY := hid_mk hy
        clear hx hy
        cases hlv : lt x y with
        | true =>
          go_upto_region 3 with fail
          go_region_held3 (fun w' => w'.cell? ⟨blk, p1, none⟩ = some (uV x) ∧ w'.cell? ⟨blk, a, none⟩ = some (uV y)) (first | exact ⟨cx, cy⟩ | exact ⟨by rw [HX.out]; exact HE.out.cell S2 (p1) (by omega), by rw [HY.out]; exact HE.out.cell S2 (a) (by omega)⟩) (first | (go_at_call 20; refine hc.mono ?_; rintro e w' ⟨rfl, S2⟩))
          clear cx cy hc SJ
          go_wp2_with fail
          go_roundg (jb - p1)
          case measure => omega
          case rel => exact ⟨p1 + 1, by go_num, by omega, by omega, by omega, S2, (show Hid _ from (scanUp_go _ _ _ _ hle (by show lt _ _ = true; rw [← HX.out, ← HY.out]; exact hlv)).symm.trans HS.out)⟩
        | false =>
          go_upto_region 3 with fail
          go_region_held3 (fun w' => w'.cell? ⟨blk, p1, none⟩ = some (uV x) ∧ w'.cell? ⟨blk, a, none⟩ = some (uV y)) (first | exact ⟨cx, cy⟩ | exact ⟨by rw [HX.out]; exact HE.out.cell S2 (p1) (by omega), by rw [HY.out]; exact HE.out.cell S2 (a) (by omega)⟩) (first | (go_at_call 20; refine hc.mono ?_; rintro e w' ⟨rfl, S2⟩))
          clear cx cy hc SJ
          have hr : Hid (p1 = i2) := (scanUp_end _ _ _ _ (Or.inr (by show lt _ _ = false; rw [← HX.out, ← HY.out]; exact hlv))).symm.trans HS.out
          go_wp2_with fail
          go_meet
          case rel => exact ⟨by rw [hr.out], S2, by have := hr.out; omega, by have := hr.out; omega⟩
      · have hle1 : ¬ (p1 : Int) ≤ (jb : Int) := by omega
        have hle2 : decide ((p1 : Int) ≤ (jb : Int)) = false := decide_eq_false hle1
        have hle3 : decide (p1 ≤ jb) = false := decide_eq_false hle
        have hr : Hid (p1 = i2) := (scanUp_end _ _ _ _ (Or.inl hle)).symm.trans HS.out
        go_upto_region 3 with fail
        go_quiet (fail)
        go_wp2_with fail
        go_meet
        case rel => exact ⟨by rw [hr.out], HE.out.drewN SJ _, by have := hr.out; omega, by have := hr.out; omega⟩
  case rest => as_aux_lemma =>
    obtain ⟨rfl, S3, hgei2, hlei2⟩ := hcut
    clear S1
    obtain ⟨j2, hj2⟩ : ∃ r, r = Sort.scanDown (fun z => !lt z d1[a]!) d1 i2 jb := ⟨_, rfl⟩
    have Hj2 := hid_mk hj2
    clear hj2
    go_upto_block 2 with fail
    go_cut [11] (fun s wx => s = .int .i64 (j2 : Nat) ∧ S d1 wx ∧ i2 ≤ j2 + 1 ∧ j2 ≤ jb)
    case first => as_aux_lemma =>
      go_wp2_with fail
      go_loopg [11] (jb + 1) (fun g1 vi wr => ∃ p1 : Nat, vi = .int .i64 p1 ∧ i2 ≤ p1 + 1 ∧ p1 ≤ jb ∧ p1 ≤ g1 ∧ S d1 wr ∧ Hid (Sort.scanDown (fun z => !lt z d1[a]!) d1 i2 p1 = j2))
      case atStart => exact ⟨jb, by go_num, by omega, Nat.le_refl _, by omega, S3, Hj2.out.symm⟩
      case round =>
        clear S3
        obtain ⟨p1, rfl, hp1, hp2, hg1, SJ, HS⟩ := hrel
        by_cases hle : i2 ≤ p1
        · obtain ⟨q, rfl⟩ : ∃ q, p1 = q + 1 := ⟨p1 - 1, by omega⟩
          have hle1 : (i2 : Int) ≤ (q : Int) + 1 := by omega
          have hle2 : decide ((i2 : Int) ≤ (q : Int) + 1) = true := decide_eq_true hle1
          have hq0 : ((q : Int) + 1).toNat = q + 1 := by omega
          have hq1 : (0 : Int) ≤ (q : Int) + 1 := by omega
          have hq2 : (q : Int) + 1 < (n : Int) := by omega
          have hb2 : (a : Int) < (n : Int) := by omega
          obtain ⟨x, hx⟩ : ∃ x, x = d1[q + 1]! := ⟨_, rfl⟩
          obtain ⟨y, hy⟩ : ∃ y, y = d1[a]! := ⟨_, rfl⟩
          have cx := HE.out.cell (HE.out.drew SJ) (q + 1) (by omega)
          have cy := HE.out.cell (HE.out.drew SJ) (a) (by omega)
          have hc := HC.out.call d1 _ (HE.out.drew SJ) (q + 1) (a) (by omega) (by omega)
          rw [← hx] at cx hc
          rw [← hy] at cy hc
          have HX := hid_mk hx
          have HY := hid_mk hy
          clear hx hy
          cases hlv : lt x y with
          | false =>
            go_upto_region 5 with fail
            go_region_held3 (fun w' => w'.cell? ⟨blk, q + 1, none⟩ = some (uV x) ∧ w'.cell? ⟨blk, a, none⟩ = some (uV y)) (first | exact ⟨cx, cy⟩ | exact ⟨by rw [HX.out]; exact HE.out.cell S2 (q + 1) (by omega), by rw [HY.out]; exact HE.out.cell S2 (a) (by omega)⟩) (first | (go_at_call 20; refine hc.mono ?_; rintro e w' ⟨rfl, S2⟩))
            clear cx cy hc SJ
            go_wp2_with fail
            go_roundg q
            case measure => omega
            case rel => exact ⟨q, by go_num, by omega, by omega, Nat.le_refl _, S2, (show Hid _ from (scanDown_go _ _ _ (q + 1) hle (by omega) (by show (!lt _ _) = true; rw [← HX.out, ← HY.out, hlv]; rfl)).symm.trans HS.out)⟩
          | true =>
            go_upto_region 5 with fail
            go_region_held3 (fun w' => w'.cell? ⟨blk, q + 1, none⟩ = some (uV x) ∧ w'.cell? ⟨blk, a, none⟩ = some (uV y)) (first | exact ⟨cx, cy⟩ | exact ⟨by rw [HX.out]; exact HE.out.cell S2 (q + 1) (by omega), by rw [HY.out]; exact HE.out.cell S2 (a) (by omega)⟩) (first | (go_at_call 20; refine hc.mono ?_; rintro e w' ⟨rfl, S2⟩))
            clear cx cy hc SJ
            have hr : Hid (q + 1 = j2) := (scanDown_end _ _ _ _ (Or.inr (by show (!lt _ _) = false; rw [← HX.out, ← HY.out, hlv]; rfl))).symm.trans HS.out
            go_wp2_with fail
            go_meet
            case rel => exact ⟨by rw [← hr.out]; go_num, S2, by have := hr.out; omega, by have := hr.out; omega⟩
        · have hle1 : ¬ (i2 : Int) ≤ (p1 : Int) := by omega
          have hle2 : decide ((i2 : Int) ≤ (p1 : Int)) = false := decide_eq_false hle1
          have hle3 : decide (i2 ≤ p1) = false := decide_eq_false hle
          have hr : Hid (p1 = j2) := (scanDown_end _ _ _ _ (Or.inl hle)).symm.trans HS.out
          go_upto_region 5 with fail
          go_quiet (fail)
          go_wp2_with fail
          go_meet
          case rel => exact ⟨by rw [hr.out], HE.out.drewN SJ _, by have := hr.out; omega, by have := hr.out; omega⟩
    case rest => as_aux_lemma =>
      obtain ⟨rfl, S4, hgej2, hlej2⟩ := hcut
      clear S3
      by_cases hgt : j2 < i2
      · have hgt1 : (j2 : Int) < (i2 : Int) := by omega
        have hzj : (j2 : Int) < (n : Int) := by omega
        have hfin : Hid (R = (j2, true, swp d1 j2 a)) := by
          show R = _
          rw [HR.out]
          unfold Sort.partition
          simp only [← HD1.out, Nat.add_sub_cancel, ← HI1.out, ← Hi2.out, ← Hj2.out]
          rw [if_pos hgt]
        go_wp2_with fail
        have S5 := HE.out.swapD S4 (j2) (a) (by omega) (by omega)
        obtain ⟨xs, hxs⟩ : ∃ x, x = d1[j2]! := ⟨_, rfl⟩
        obtain ⟨ys, hys⟩ : ∃ y, y = d1[a]! := ⟨_, rfl⟩
        have cx := HE.out.cell S4 (j2) (by omega)
        have cy := HE.out.cell S4 (a) (by omega)
        have fx := HE.out.frz S4 (j2) (by omega)
        have fy := HE.out.frz S4 (a) (by omega)
        rw [← hxs] at cx S5
        rw [← hys] at cy S5
        obtain ⟨uu, cz⟩ := HE.out.again S4 (j2) (a) (by omega) (by omega) (uV ys)
        clear hxs hys S4
        go_upto_region 8 with fail
        go_big_region_o
        clear cx cy cz fx fy
        generalize (((wc.setCell ⟨blk, j2, none⟩ (uV ys)).setCell ⟨blk, a, none⟩ (uV xs)).drew) = w5 at S5 ⊢
        go_wp2_with fail
        go_ret2
        rw [hfin.out]
        exact ⟨rfl, S5⟩
      · have hfin : Hid (R = ((Sort.partLoop lt a (i2 + 1) (j2 - 1) (swp d1 i2 j2)).1, false, swp (Sort.partLoop lt a (i2 + 1) (j2 - 1) (swp d1 i2 j2)).2 (Sort.partLoop lt a (i2 + 1) (j2 - 1) (swp d1 i2 j2)).1 a)) := by
          show R = _
          rw [HR.out]
          unfold Sort.partition
          simp only [← HD1.out, Nat.add_sub_cancel, ← HI1.out, ← Hi2.out, ← Hj2.out]
          rw [if_neg hgt]
        have hgt1 : ¬ (j2 : Int) < (i2 : Int) := by omega
        have hzi : (i2 : Int) < (n : Int) := by omega
        have hlt3 : i2 < j2 := scan_lt _ _ (fun _ => rfl) _ _ _ _ _ Hi2.out Hj2.out (by omega) (by omega)
        obtain ⟨j3, rfl⟩ : ∃ q, j2 = q + 1 := ⟨j2 - 1, by omega⟩
        have hq0 : ((j3 : Int) + 1).toNat = j3 + 1 := by omega
        have hq1 : (0 : Int) ≤ (j3 : Int) + 1 := by omega
        have hgt2 : ¬ (j3 : Int) + 1 < (i2 : Int) := by omega
        have hzj2 : (j3 : Int) + 1 < (n : Int) := by omega
        go_wp2_with fail
        have S5 := HE.out.swapD S4 (i2) (j3 + 1) (by omega) (by omega)
        obtain ⟨xs, hxs⟩ : ∃ x, x = d1[i2]! := ⟨_, rfl⟩
        obtain ⟨ys, hys⟩ : ∃ y, y = d1[j3 + 1]! := ⟨_, rfl⟩
        have cx := HE.out.cell S4 (i2) (by omega)
        have cy := HE.out.cell S4 (j3 + 1) (by omega)
        have fx := HE.out.frz S4 (i2) (by omega)
        have fy := HE.out.frz S4 (j3 + 1) (by omega)
        rw [← hxs] at cx S5
        rw [← hys] at cy S5
        obtain ⟨uu, cz⟩ := HE.out.again S4 (i2) (j3 + 1) (by omega) (by omega) (uV ys)
        clear hxs hys S4
        go_upto_region 10 with fail
        go_big_region_o
        clear cx cy cz fx fy
        generalize (((wc.setCell ⟨blk, i2, none⟩ (uV ys)).setCell ⟨blk, j3 + 1, none⟩ (uV xs)).drew) = w5 at S5 ⊢
        obtain ⟨RL, hRL⟩ : ∃ r, r = Sort.partLoop lt a (i2 + 1) j3 (swp d1 i2 (j3 + 1)) := ⟨_, rfl⟩
        have HRL := hid_mk hRL
        clear hRL
        go_wp2_with fail
        go_loopg [10, 11] (j3 + 1) (fun g1 vi vj wr => ∃ (i j : Nat) (dk : Array Int), vi = .int .i64 i ∧ vj = .int .i64 j ∧ a < i ∧ i ≤ j + 1 ∧ j ≤ jb ∧ j + 1 - i ≤ g1 ∧ S dk wr ∧ Hid (Sort.partLoop lt a i j dk = RL))
        case atStart => exact ⟨(i2 + 1), j3, (swp d1 i2 (j3 + 1)), by go_num, by go_num, by omega, by omega, by omega, by omega, S5, HRL.out.symm⟩
        case round =>
          clear S5
          obtain ⟨i, j, dk, rfl, rfl, hai, hij, hjj, hg1, SK, HL⟩ := hrel
          obtain ⟨i4, hi4⟩ : ∃ r, r = Sort.scanUp (fun z => lt z dk[a]!) dk j i := ⟨_, rfl⟩
          have Hi4 := hid_mk hi4
          clear hi4
          go_upto_block 6 with fail
          go_cut [10] (fun s wx => s = .int .i64 (i4 : Nat) ∧ S dk wx ∧ i ≤ i4 ∧ i4 ≤ j + 1)
          case first => as_aux_lemma =>
            go_wp2_with fail
            go_loopg [10] (j + 1 - i) (fun g1 vi wr => ∃ p1 : Nat, vi = .int .i64 p1 ∧ i ≤ p1 ∧ p1 ≤ j + 1 ∧ j + 1 - p1 ≤ g1 ∧ S dk wr ∧ Hid (Sort.scanUp (fun z => lt z dk[a]!) dk j p1 = i4))
            case atStart => exact ⟨i, by go_num, Nat.le_refl _, by omega, by omega, SK, Hi4.out.symm⟩
            case round =>
              clear SK
              obtain ⟨p1, rfl, hp1, hp2, hg1, SJ, HS⟩ := hrel
              by_cases hle : p1 ≤ j
              · have hle1 : (p1 : Int) ≤ (j : Int) := by omega
                have hle2 : decide ((p1 : Int) ≤ (j : Int)) = true := decide_eq_true hle1
                have hb1 : (p1 : Int) < (n : Int) := by omega
                have hb2 : (a : Int) < (n : Int) := by omega
                obtain ⟨x, hx⟩ : ∃ x, x = dk[p1]! := ⟨_, rfl⟩
                obtain ⟨y, hy⟩ : ∃ y, y = dk[a]! := ⟨_, rfl⟩
                have cx := HE.out.cell (HE.out.drew SJ) (p1) (by omega)
                have cy := HE.out.cell (HE.out.drew SJ) (a) (by omega)
                have hc := HC.out.call dk _ (HE.out.drew SJ) (p1) (a) (by omega) (by omega)
                rw [← hx] at cx hc
                rw [← hy] at cy hc
                have HX := hid_mk hx
                have HY := hid_mk hy
                clear hx hy
                cases hlv : lt x y with
                | true =>
                  go_upto_region 13 with fail
                  go_region_held3 (fun w' => w'.cell? ⟨blk, p1, none⟩ = some (uV x) ∧ w'.cell? ⟨blk, a, none⟩ = some (uV y)) (first | exact ⟨cx, cy⟩ | exact ⟨by rw [HX.out]; exact HE.out.cell S2 (p1) (by omega), by rw [HY.out]; exact HE.out.cell S2 (a) (by omega)⟩) (first | (go_at_call 20; refine hc.mono ?_; rintro e w' ⟨rfl, S2⟩))
                  clear cx cy hc SJ
                  go_wp2_with fail
                  go_roundg (j - p1)
                  case measure => omega
                  case rel => exact ⟨p1 + 1, by go_num, by omega, by omega, by omega, S2, (show Hid _ from (scanUp_go _ _ _ _ hle (by show lt _ _ = true; rw [← HX.out, ← HY.out]; exact hlv)).symm.trans HS.out)⟩
                | false =>
                  go_upto_region 13 with fail
                  go_region_held3 (fun w' => w'.cell? ⟨blk, p1, none⟩ = some (uV x) ∧ w'.cell? ⟨blk, a, none⟩ = some (uV y)) (first | exact ⟨cx, cy⟩ | exact ⟨by rw [HX.out]; exact HE.out.cell S2 (p1) (by omega), by rw [HY.out]; exact HE.out.cell S2 (a) (by omega)⟩) (first | (go_at_call 20; refine hc.mono ?_; rintro e w' ⟨rfl, S2⟩))
                  clear cx cy hc SJ
                  have hr : Hid (p1 = i4) := (scanUp_end _ _ _ _ (Or.inr (by show lt _ _ = false; rw [← HX.out, ← HY.out]; exact hlv))).symm.trans HS.out
                  go_wp2_with fail
                  go_meet
                  case rel => exact ⟨by rw [hr.out], S2, by have := hr.out; omega, by have := hr.out; omega⟩
              · have hle1 : ¬ (p1 : Int) ≤ (j : Int) := by omega
                have hle2 : decide ((p1 : Int) ≤ (j : Int)) = false := decide_eq_false hle1
                have hle3 : decide (p1 ≤ j) = false := decide_eq_false hle
                have hr : Hid (p1 = i4) := (scanUp_end _ _ _ _ (Or.inl hle)).symm.trans HS.out
                go_upto_region 13 with fail
                go_quiet (fail)
                go_wp2_with fail
                go_meet
                case rel => exact ⟨by rw [hr.out], HE.out.drewN SJ _, by have := hr.out; omega, by have := hr.out; omega⟩
          case rest => as_aux_lemma =>
            obtain ⟨rfl, SU, hgei4, hlei4⟩ := hcut
            clear SK
            obtain ⟨j4, hj4⟩ : ∃ r, r = Sort.scanDown (fun z => !lt z dk[a]!) dk i4 j := ⟨_, rfl⟩
            have Hj4 := hid_mk hj4
            clear hj4
            go_upto_block 8 with fail
            go_cut [11] (fun s wx => s = .int .i64 (j4 : Nat) ∧ S dk wx ∧ i4 ≤ j4 + 1 ∧ j4 ≤ j)
            case first => as_aux_lemma =>
              go_wp2_with fail
              go_loopg [11] (j + 1) (fun g1 vi wr => ∃ p1 : Nat, vi = .int .i64 p1 ∧ i4 ≤ p1 + 1 ∧ p1 ≤ j ∧ p1 ≤ g1 ∧ S dk wr ∧ Hid (Sort.scanDown (fun z => !lt z dk[a]!) dk i4 p1 = j4))
              case atStart => exact ⟨j, by go_num, by omega, Nat.le_refl _, by omega, SU, Hj4.out.symm⟩
              case round =>
                clear SU
                obtain ⟨p1, rfl, hp1, hp2, hg1, SJ, HS⟩ := hrel
                by_cases hle : i4 ≤ p1
                · obtain ⟨q, rfl⟩ : ∃ q, p1 = q + 1 := ⟨p1 - 1, by omega⟩
                  have hle1 : (i4 : Int) ≤ (q : Int) + 1 := by omega
                  have hle2 : decide ((i4 : Int) ≤ (q : Int) + 1) = true := decide_eq_true hle1
                  have hq0 : ((q : Int) + 1).toNat = q + 1 := by omega
                  have hq1 : (0 : Int) ≤ (q : Int) + 1 := by omega
                  have hq2 : (q : Int) + 1 < (n : Int) := by omega
                  have hb2 : (a : Int) < (n : Int) := by omega
                  obtain ⟨x, hx⟩ : ∃ x, x = dk[q + 1]! := ⟨_, rfl⟩
                  obtain ⟨y, hy⟩ : ∃ y, y = dk[a]! := ⟨_, rfl⟩
                  have cx := HE.out.cell (HE.out.drew SJ) (q + 1) (by omega)
                  have cy := HE.out.cell (HE.out.drew SJ) (a) (by omega)
                  have hc := HC.out.call dk _ (HE.out.drew SJ) (q + 1) (a) (by omega) (by omega)
                  rw [← hx] at cx hc
                  rw [← hy] at cy hc
                  have HX := hid_mk hx
                  have HY := hid_mk hy
                  clear hx hy
                  cases hlv : lt x y with
                  | false =>
                    go_upto_region 15 with fail
                    go_region_held3 (fun w' => w'.cell? ⟨blk, q + 1, none⟩ = some (uV x) ∧ w'.cell? ⟨blk, a, none⟩ = some (uV y)) (first | exact ⟨cx, cy⟩ | exact ⟨by rw [HX.out]; exact HE.out.cell S2 (q + 1) (by omega), by rw [HY.out]; exact HE.out.cell S2 (a) (by omega)⟩) (first | (go_at_call 20; refine hc.mono ?_; rintro e w' ⟨rfl, S2⟩))
                    clear cx cy hc SJ
                    go_wp2_with fail
                    go_roundg q
                    case measure => omega
                    case rel => exact ⟨q, by go_num, by omega, by omega, Nat.le_refl _, S2, (show Hid _ from (scanDown_go _ _ _ (q + 1) hle (by omega) (by show (!lt _ _) = true; rw [← HX.out, ← HY.out, hlv]; rfl)).symm.trans HS.out)⟩
                  | true =>
                    go_upto_region 15 with fail
                    go_region_held3 (fun w' => w'.cell? ⟨blk, q + 1, none⟩ = some (uV x) ∧ w'.cell? ⟨blk, a, none⟩ = some (uV y)) (first | exact ⟨cx, cy⟩ | exact ⟨by rw [HX.out]; exact HE.out.cell S2 (q + 1) (by omega), by rw [HY.out]; exact HE.out.cell S2 (a) (by omega)⟩) (first | (go_at_call 20; refine hc.mono ?_; rintro e w' ⟨rfl, S2⟩))
                    clear cx cy hc SJ
                    have hr : Hid (q + 1 = j4) := (scanDown_end _ _ _ _ (Or.inr (by show (!lt _ _) = false; rw [← HX.out, ← HY.out, hlv]; rfl))).symm.trans HS.out
                    go_wp2_with fail
                    go_meet
                    case rel => exact ⟨by rw [← hr.out]; go_num, S2, by have := hr.out; omega, by have := hr.out; omega⟩
                · have hle1 : ¬ (i4 : Int) ≤ (p1 : Int) := by omega
                  have hle2 : decide ((i4 : Int) ≤ (p1 : Int)) = false := decide_eq_false hle1
                  have hle3 : decide (i4 ≤ p1) = false := decide_eq_false hle
                  have hr : Hid (p1 = j4) := (scanDown_end _ _ _ _ (Or.inl hle)).symm.trans HS.out
                  go_upto_region 15 with fail
                  go_quiet (fail)
                  go_wp2_with fail
                  go_meet
                  case rel => exact ⟨by rw [hr.out], HE.out.drewN SJ _, by have := hr.out; omega, by have := hr.out; omega⟩
            case rest => as_aux_lemma =>
              obtain ⟨rfl, SD, hgej4, hlej4⟩ := hcut
              clear SU
              by_cases hgt : j4 < i4
              · have hgt1 : (j4 : Int) < (i4 : Int) := by omega
                have hzj : (j4 : Int) < (n : Int) := by omega
                have hend : Hid (RL = (j4, dk)) := by
                  show RL = _
                  rw [← HL.out, Sort.partLoop_eq, ← Hi4.out, ← Hj4.out, if_pos hgt]
                go_wp2_with fail
                have S6 := HE.out.swapD SD (j4) (a) (by omega) (by omega)
                obtain ⟨xs, hxs⟩ : ∃ x, x = dk[j4]! := ⟨_, rfl⟩
                obtain ⟨ys, hys⟩ : ∃ y, y = dk[a]! := ⟨_, rfl⟩
                have cx := HE.out.cell SD (j4) (by omega)
                have cy := HE.out.cell SD (a) (by omega)
                have fx := HE.out.frz SD (j4) (by omega)
                have fy := HE.out.frz SD (a) (by omega)
                rw [← hxs] at cx S6
                rw [← hys] at cy S6
                obtain ⟨uu, cz⟩ := HE.out.again SD (j4) (a) (by omega) (by omega) (uV ys)
                clear hxs hys SD
                go_upto_region 21 with fail
                go_big_region_o
                clear cx cy cz fx fy
                generalize (((wc.setCell ⟨blk, j4, none⟩ (uV ys)).setCell ⟨blk, a, none⟩ (uV xs)).drew) = w6 at S6 ⊢
                go_wp2_with fail
                go_ret2
                rw [hfin.out, show (j3 + 1 - 1) = j3 from rfl, ← HRL.out, hend.out]
                exact ⟨rfl, S6⟩
              · have hstep : Hid (RL = Sort.partLoop lt a (i4 + 1) (j4 - 1) (swp dk i4 j4)) := by
                  show RL = _
                  rw [← HL.out, Sort.partLoop_eq, ← Hi4.out, ← Hj4.out, if_neg hgt]
                have hgt1 : ¬ (j4 : Int) < (i4 : Int) := by omega
                have hzi : (i4 : Int) < (n : Int) := by omega
                have hlt3 : i4 < j4 := scan_lt _ _ (fun _ => rfl) _ _ _ _ _ Hi4.out Hj4.out (by omega) (by omega)
                obtain ⟨q4, rfl⟩ : ∃ q, j4 = q + 1 := ⟨j4 - 1, by omega⟩
                have hq0 : ((q4 : Int) + 1).toNat = q4 + 1 := by omega
                have hq1 : (0 : Int) ≤ (q4 : Int) + 1 := by omega
                have hgt2 : ¬ (q4 : Int) + 1 < (i4 : Int) := by omega
                have hzj2 : (q4 : Int) + 1 < (n : Int) := by omega
                have S5 := HE.out.swapD SD (i4) (q4 + 1) (by omega) (by omega)
                obtain ⟨xs, hxs⟩ : ∃ x, x = dk[i4]! := ⟨_, rfl⟩
                obtain ⟨ys, hys⟩ : ∃ y, y = dk[q4 + 1]! := ⟨_, rfl⟩
                have cx := HE.out.cell SD (i4) (by omega)
                have cy := HE.out.cell SD (q4 + 1) (by omega)
                have fx := HE.out.frz SD (i4) (by omega)
                have fy := HE.out.frz SD (q4 + 1) (by omega)
                rw [← hxs] at cx S5
                rw [← hys] at cy S5
                obtain ⟨uu, cz⟩ := HE.out.again SD (i4) (q4 + 1) (by omega) (by omega) (uV ys)
                clear hxs hys SD
                go_upto_region 18 with fail
                go_big_region_o
                clear cx cy cz fx fy
                generalize (((wc.setCell ⟨blk, i4, none⟩ (uV ys)).setCell ⟨blk, q4 + 1, none⟩ (uV xs)).drew) = w5 at S5 ⊢
                go_wp2_with fail
                go_roundg (j - i)
                case measure => omega
                case rel => exact ⟨i4 + 1, q4, swp dk i4 (q4 + 1), by go_num, by go_num, by omega, by omega, by omega, by omega, S5, (show Hid _ from hstep.out.symm)⟩

end Go.Proofs.Ybulkdkxi.lawS5598AWhole

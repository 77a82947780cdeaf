import Derived.Test.YbulkdkxiEnv
namespace Go.Proofs.Ybulkdkxi.lawS5598AWhole
open Go.RowKit Go.Deep
open Go.Sort (swp size_swp scanSorted shiftDown shiftUp partialIns partialInsertionSort)
set_option linter.unusedVariables false
set_option linter.unusedSimpArgs false

variable {blk n cap : Nat} {lt : Int → Int → Bool} {S : Array Int → World → Prop}

set_option maxRecDepth 100000 in
set_option maxHeartbeats 16000000 in
theorem pins_o (E : Env blk n S) (C : LessOk n lt S) (hn : n ≤ 4096) (a b : Nat) (d : Array Int) (w : World) (h : S d w) (hab : a < b) (hb : b ≤ n) :
    Calls Yba.prog 29 #[.slice (some ⟨blk, 0, none⟩) n cap, .int .i64 a, .int .i64 b] w fun e w' => e = .returned (.bool (partialInsertionSort lt d a b).2) ∧ S (partialInsertionSort lt d a b).1 w' := by
  obtain ⟨R, hR⟩ : ∃ R, R = partialInsertionSort lt d a b := ⟨_, rfl⟩
  rw [← hR]
  have HR := hid_mk hR
  clear hR
  have mixed := mixedY
  have HE := hid_mk E
  have HC := hid_mk C
  clear E C
  go_enter Yba.func29, Yba.ntmps29
  go_wp2_with fail
  go_loopg [7, 8] 6 (fun g1 vi vj wr => ∃ (s i t : Nat) (dk : Array Int), vi = .int .i64 i ∧ vj = .int .i64 t ∧ t + s = 5 ∧ s ≤ g1 ∧ a < i ∧ i ≤ b ∧ S dk wr ∧ Hid (partialIns lt a b s i dk = R))
  case atStart => exact ⟨5, a + 1, 0, d, by go_num, rfl, rfl, by omega, by omega, by omega, h, HR.out.symm⟩
  case round =>
    obtain ⟨s, i, t, dk, rfl, rfl, hts, hg1, hai, hib, SK, HP⟩ := hrel
    clear h
    by_cases hs0 : s = 0
    · subst hs0
      obtain rfl : t = 5 := by omega
      go_wp2_with fail
      go_ret
      have e : R = (dk, false) := HP.out.symm
      rw [e]
      exact ⟨rfl, SK⟩
    obtain ⟨s1, rfl⟩ : ∃ s1, s = s1 + 1 := ⟨s - 1, by omega⟩
    have ht5 : (t : Int) < 5 := by omega
    obtain ⟨i2, hi2⟩ : ∃ r, r = scanSorted lt dk b i := ⟨_, rfl⟩
    have Hi2 := hid_mk hi2
    clear hi2 hs0
    go_upto_block 2 with fail
    go_cut [7] (fun s wx => s = .int .i64 (i2 : Nat) ∧ S dk wx ∧ i ≤ i2 ∧ i2 ≤ b)
    case first => as_aux_lemma =>
      go_wp2_with fail
      go_loopg [7] (b - i) (fun g1 vi wr => ∃ p1 : Nat, vi = .int .i64 p1 ∧ i ≤ p1 ∧ p1 ≤ b ∧ b - p1 ≤ g1 ∧ S dk wr ∧ Hid (scanSorted lt dk b p1 = i2))
      case atStart => exact ⟨i, rfl, Nat.le_refl _, hib, by omega, SK, Hi2.out.symm⟩
      case round =>
        clear SK
        obtain ⟨p1, rfl, hp1, hp2, hg2, SJ, HS⟩ := hrel
        by_cases hle : p1 < b
        · obtain ⟨q, rfl⟩ : ∃ q, p1 = q + 1 := ⟨p1 - 1, by omega⟩
          have hle1 : (q : Int) + 1 < (b : Int) := by omega
          have hle2 : decide ((q : Int) + 1 < (b : Int)) = true := decide_eq_true hle1
          have hq0 : ((q : Int) + 1).toNat = q + 1 := by omega
          have hq1 : (0 : Int) ≤ (q : Int) + 1 := by omega
          have hq2 : (q : Int) + 1 < (n : Int) := by omega
          have hq3 : (q : Int) < (n : Int) := by omega
          have hq4 : IntKind.i64.wrap ((q : Int) + 1) = (q : Int) + 1 := by rw [IntKind.wrap_i64]; omega
          have hq5 : IntKind.i64.wrap (q : Int) = (q : Int) := by rw [IntKind.wrap_i64]; omega
          obtain ⟨x, hx⟩ : ∃ x, x = dk[q + 1]! := ⟨_, rfl⟩
          obtain ⟨y, hy⟩ : ∃ y, y = dk[q]! := ⟨_, rfl⟩
          have cx := HE.out.cell (HE.out.drew SJ) (q + 1) (by omega)
          have cy := HE.out.cell (HE.out.drew SJ) (q) (by omega)
          have hc := HC.out.call dk _ (HE.out.drew SJ) (q + 1) (q) (by omega) (by omega)
          rw [← hx] at cx hc
          rw [← hy] at cy hc
          have HX := hid_mk hx
          have HY := hid_mk hy
          clear hx hy
          cases hlv : lt x y with
          | false =>
            go_upto_region 5 with fail
            go_region_held3 (fun w' => w'.cell? ⟨blk, q + 1, none⟩ = some (uV x) ∧ w'.cell? ⟨blk, q, none⟩ = some (uV y)) (first | exact ⟨cx, cy⟩ | exact ⟨by rw [HX.out]; exact HE.out.cell S2 (q + 1) (by omega), by rw [HY.out]; exact HE.out.cell S2 (q) (by omega)⟩) (first | (go_at_call 20; refine hc.mono ?_; rintro e w' ⟨rfl, S2⟩))
            clear cx cy hc SJ
            go_wp2_with fail
            go_roundg (b - (q + 1 + 1))
            case measure => omega
            case rel => exact ⟨q + 1 + 1, by go_num, by omega, by omega, by omega, S2, (show Hid _ from by show _ = _; rw [← HS.out, scanSorted_go lt dk b (q + 1) hle (by rw [Nat.add_sub_cancel, ← HX.out, ← HY.out]; exact hlv)])⟩
          | true =>
            go_upto_region 5 with fail
            go_region_held3 (fun w' => w'.cell? ⟨blk, q + 1, none⟩ = some (uV x) ∧ w'.cell? ⟨blk, q, none⟩ = some (uV y)) (first | exact ⟨cx, cy⟩ | exact ⟨by rw [HX.out]; exact HE.out.cell S2 (q + 1) (by omega), by rw [HY.out]; exact HE.out.cell S2 (q) (by omega)⟩) (first | (go_at_call 20; refine hc.mono ?_; rintro e w' ⟨rfl, S2⟩))
            clear cx cy hc SJ
            have hr : Hid (q + 1 = i2) := (scanSorted_stop lt dk b (q + 1) (Or.inr (by rw [Nat.add_sub_cancel, ← HX.out, ← HY.out]; exact hlv))).symm.trans HS.out
            go_wp2_with fail
            go_meet
            case rel => exact ⟨by rw [← hr.out]; go_num, S2, by have := hr.out; omega, by have := hr.out; omega⟩
        · have hle1 : ¬ (p1 : Int) < (b : Int) := by omega
          have hle2 : decide ((p1 : Int) < (b : Int)) = false := decide_eq_false hle1
          have hle3 : decide (p1 < b) = false := decide_eq_false hle
          have hr : Hid (p1 = i2) := (scanSorted_stop lt dk b p1 (Or.inl hle)).symm.trans HS.out
          go_upto_region 5 with fail
          go_quiet (fail)
          go_wp2_with fail
          go_meet
          case rel => exact ⟨by rw [hr.out], HE.out.drewN SJ _, by have := hr.out; omega, by have := hr.out; omega⟩
    case rest => as_aux_lemma =>
      obtain ⟨rfl, S1, hge, hle⟩ := hcut
      clear SK
      have HP1 : Hid (R = if i2 = b then (dk, true) else if b - a < 50 then (dk, false) else
          partialIns lt a b s1 i2 (if b - i2 ≥ 2 then shiftUp lt b (i2 + 1) (if i2 - a ≥ 2 then shiftDown lt (i2 - 1) (swp dk i2 (i2 - 1)) else swp dk i2 (i2 - 1)) else (if i2 - a ≥ 2 then shiftDown lt (i2 - 1) (swp dk i2 (i2 - 1)) else swp dk i2 (i2 - 1)))) := by
        show R = _
        rw [← HP.out, Hi2.out]
        rfl
      by_cases hib2 : i2 = b
      · have e : R = (dk, true) := by rw [HP1.out, if_pos hib2]
        have He := hid_mk e
        have hz : (i2 : Int) = (b : Int) := by omega
        clear e hib2
        go_wp2_with fail
        go_ret
        rw [He.out]
        exact ⟨rfl, S1⟩
      have hz : ¬ (i2 : Int) = (b : Int) := by omega
      by_cases h50 : b - a < 50
      · have e : R = (dk, false) := by rw [HP1.out, if_neg hib2, if_pos h50]
        have He := hid_mk e
        have hz2 : (b : Int) - (a : Int) < 50 := by omega
        clear e hib2
        go_wp2_with fail
        go_ret
        rw [He.out]
        exact ⟨rfl, S1⟩
      have hz2 : ¬ (b : Int) - (a : Int) < 50 := by omega
      obtain ⟨m, rfl⟩ : ∃ m, i2 = m + 1 := ⟨i2 - 1, by omega⟩
      have hq0 : ((m : Int) + 1).toNat = m + 1 := by omega
      have hq1 : (0 : Int) ≤ (m : Int) + 1 := by omega
      have hq2 : (m : Int) + 1 < (n : Int) := by omega
      have hq3 : (m : Int) < (n : Int) := by omega
      have hq4 : IntKind.i64.wrap ((m : Int) + 1) = (m : Int) + 1 := by rw [IntKind.wrap_i64]; omega
      have hq5 : IntKind.i64.wrap (m : Int) = (m : Int) := by rw [IntKind.wrap_i64]; omega
      have hz3 : ¬ (m : Int) + 1 = (b : Int) := by omega
      have S3 := HE.out.swapD S1 (m + 1) (m) (by omega) (by omega)
      obtain ⟨xs, hxs⟩ : ∃ x, x = dk[m + 1]! := ⟨_, rfl⟩
      obtain ⟨ys, hys⟩ : ∃ y, y = dk[m]! := ⟨_, rfl⟩
      have cx := HE.out.cell S1 (m + 1) (by omega)
      have cy := HE.out.cell S1 (m) (by omega)
      have fx := HE.out.frz S1 (m + 1) (by omega)
      have fy := HE.out.frz S1 (m) (by omega)
      rw [← hxs] at cx S3
      rw [← hys] at cy S3
      obtain ⟨uu, cz⟩ := HE.out.again S1 (m + 1) (m) (by omega) (by omega) (uV ys)
      clear hxs hys S1
      go_upto_region 11 with fail
      go_big_region_o
      clear cx cy cz fx fy
      generalize (((wc.setCell ⟨blk, m + 1, none⟩ (uV ys)).setCell ⟨blk, m, none⟩ (uV xs)).drew) = w3 at S3 ⊢
      obtain ⟨d1, hd1⟩ : ∃ q, q = swp dk (m + 1) m := ⟨_, rfl⟩
      rw [← hd1] at S3
      obtain ⟨d2, hd2⟩ : ∃ q, q = (if m + 1 - a ≥ 2 then shiftDown lt m d1 else d1) := ⟨_, rfl⟩
      obtain ⟨d3, hd3⟩ : ∃ q, q = (if b - (m + 1) ≥ 2 then shiftUp lt b (m + 1 + 1) d2 else d2) := ⟨_, rfl⟩
      have HP2 : Hid (R = partialIns lt a b s1 (m + 1) d3) := by
        show R = _
        rw [HP1.out, if_neg hib2, if_neg h50, Nat.add_sub_cancel, ← hd1, ← hd2, ← hd3]
      have HD2 := hid_mk hd2
      have HD3 := hid_mk hd3
      clear hd1 hd2 hd3 HP1 hib2
      go_upto_if 61 with fail
      go_cut [9] (fun s wx => S d2 wx)
      case first => as_aux_lemma =>
        by_cases h2 : m + 1 - a ≥ 2
        · have h2z : (2 : Int) ≤ (m : Int) + 1 - (a : Int) := by omega
          have hds : Hid (shiftDown lt m d1 = d2) := by show _ = _; rw [HD2.out, if_pos h2]
          go_wp2_with fail
          go_loopg [9] (m + 1) (fun g1 vj wr => ∃ (j : Nat) (dj : Array Int), vj = .int .i64 j ∧ j ≤ m ∧ j ≤ g1 ∧ S dj wr ∧ Hid (shiftDown lt j dj = d2))
          case atStart => exact ⟨m, d1, by go_num, Nat.le_refl _, by omega, S3, hds⟩
          case round =>
            clear S3
            obtain ⟨j, dj, rfl, hjm, hgj, SJ, HS⟩ := hrel
            by_cases hj0 : j = 0
            · subst hj0
              have hr : Hid (dj = d2) := (shiftDown_stop lt 0 dj (Or.inl rfl)).symm.trans HS.out
              go_wp2_with fail
              go_meet
              case rel => rw [← hr.out]; exact SJ
            · obtain ⟨q, rfl⟩ : ∃ q, j = q + 1 := ⟨j - 1, by omega⟩
              have hg : (1 : Int) ≤ (q : Int) + 1 := by omega
              have hp0 : ((q : Int) + 1).toNat = q + 1 := by omega
              have hp1 : (0 : Int) ≤ (q : Int) + 1 := by omega
              have hp2 : (q : Int) + 1 < (n : Int) := by omega
              have hp3 : (q : Int) < (n : Int) := by omega
              have hp4 : IntKind.i64.wrap ((q : Int) + 1) = (q : Int) + 1 := by rw [IntKind.wrap_i64]; omega
              have hp5 : IntKind.i64.wrap (q : Int) = (q : Int) := by rw [IntKind.wrap_i64]; omega
              obtain ⟨x, hx⟩ : ∃ x, x = dj[q + 1]! := ⟨_, rfl⟩
              obtain ⟨y, hy⟩ : ∃ y, y = dj[q]! := ⟨_, rfl⟩
              have cx := HE.out.cell (HE.out.drew SJ) (q + 1) (by omega)
              have cy := HE.out.cell (HE.out.drew SJ) (q) (by omega)
              have hc := HC.out.call dj _ (HE.out.drew SJ) (q + 1) (q) (by omega) (by omega)
              rw [← hx] at cx hc
              rw [← hy] at cy hc
              have HX := hid_mk hx
              have HY := hid_mk hy
              clear hx hy
              cases hlv : lt x y with
              | true =>
                go_upto_region 16 with fail
                go_region_held3 (fun w' => w'.cell? ⟨blk, q + 1, none⟩ = some (uV x) ∧ w'.cell? ⟨blk, q, none⟩ = some (uV y)) (first | exact ⟨cx, cy⟩ | exact ⟨by rw [HX.out]; exact HE.out.cell S2 (q + 1) (by omega), by rw [HY.out]; exact HE.out.cell S2 (q) (by omega)⟩) (first | (go_at_call 20; refine hc.mono ?_; rintro e w' ⟨rfl, S2⟩))
                clear cx cy hc SJ
                have S4 := HE.out.swapD S2 (q + 1) (q) (by omega) (by omega)
                have cx := HE.out.cell S2 (q + 1) (by omega)
                have cy := HE.out.cell S2 (q) (by omega)
                have fx := HE.out.frz S2 (q + 1) (by omega)
                have fy := HE.out.frz S2 (q) (by omega)
                rw [← HX.out] at cx S4
                rw [← HY.out] at cy S4
                obtain ⟨uu, cz⟩ := HE.out.again S2 (q + 1) (q) (by omega) (by omega) (uV y)
                clear S2
                go_upto_region 17 with fail
                go_big_region_o
                clear cx cy cz fx fy
                generalize (((w'.setCell ⟨blk, q + 1, none⟩ (uV y)).setCell ⟨blk, q, none⟩ (uV x)).drew) = w4 at S4 ⊢
                go_wp2_with fail
                go_roundg q
                case measure => omega
                case rel => exact ⟨q, swp dj (q + 1) q, by go_num, by omega, Nat.le_refl _, S4, (show Hid _ from by show _ = _; rw [← HS.out, shiftDown_go lt (q + 1) dj (by omega) (by rw [Nat.add_sub_cancel, ← HX.out, ← HY.out]; exact hlv)]; rfl)⟩
              | false =>
                go_upto_region 16 with fail
                go_region_held3 (fun w' => w'.cell? ⟨blk, q + 1, none⟩ = some (uV x) ∧ w'.cell? ⟨blk, q, none⟩ = some (uV y)) (first | exact ⟨cx, cy⟩ | exact ⟨by rw [HX.out]; exact HE.out.cell S2 (q + 1) (by omega), by rw [HY.out]; exact HE.out.cell S2 (q) (by omega)⟩) (first | (go_at_call 20; refine hc.mono ?_; rintro e w' ⟨rfl, S2⟩))
                clear cx cy hc SJ
                have hr : Hid (dj = d2) := (shiftDown_stop lt (q + 1) dj (Or.inr (by rw [Nat.add_sub_cancel, ← HX.out, ← HY.out]; exact hlv))).symm.trans HS.out
                go_wp2_with fail
                go_meet
                case rel => rw [← hr.out]; exact S2
        · have h2z : ¬ (2 : Int) ≤ (m : Int) + 1 - (a : Int) := by omega
          have hr : Hid (d2 = d1) := by show _ = _; rw [HD2.out, if_neg h2]
          go_wp2_with fail
          go_meet
          case rel => rw [hr.out]; exact S3
      case rest => as_aux_lemma =>
        have S5 := hcut
        clear hcut S3 HD2
        · skip
          by_cases h2 : b - (m + 1) ≥ 2
          · have h2z : (2 : Int) ≤ (b : Int) - ((m : Int) + 1) := by omega
            have hds : Hid (shiftUp lt b (m + 1 + 1) d2 = d3) := by show _ = _; rw [HD3.out, if_pos h2]
            go_wp2_with fail
            go_loopg [10] (b - m) (fun g1 vj wr => ∃ (j : Nat) (dj : Array Int), vj = .int .i64 ((j : Int) + 1) ∧ j + 1 ≤ b ∧ b - j ≤ g1 + 1 ∧ S dj wr ∧ Hid (shiftUp lt b (j + 1) dj = d3))
            case atStart => exact ⟨m + 1, d2, by go_num, by omega, by omega, S5, hds⟩
            case round =>
              clear S5
              obtain ⟨q, dj, rfl, hjm, hgj, SJ, HS⟩ := hrel
              by_cases hjb : q + 1 < b
              · have hg : (q : Int) + 1 < (b : Int) := by omega
                have hp0 : ((q : Int) + 1).toNat = q + 1 := by omega
                have hp1 : (0 : Int) ≤ (q : Int) + 1 := by omega
                have hp2 : (q : Int) + 1 < (n : Int) := by omega
                have hp3 : (q : Int) < (n : Int) := by omega
                have hp4 : IntKind.i64.wrap ((q : Int) + 1) = (q : Int) + 1 := by rw [IntKind.wrap_i64]; omega
                have hp5 : IntKind.i64.wrap (q : Int) = (q : Int) := by rw [IntKind.wrap_i64]; omega
                obtain ⟨x, hx⟩ : ∃ x, x = dj[q + 1]! := ⟨_, rfl⟩
                obtain ⟨y, hy⟩ : ∃ y, y = dj[q]! := ⟨_, rfl⟩
                have cx := HE.out.cell (HE.out.drew SJ) (q + 1) (by omega)
                have cy := HE.out.cell (HE.out.drew SJ) (q) (by omega)
                have hc := HC.out.call dj _ (HE.out.drew SJ) (q + 1) (q) (by omega) (by omega)
                rw [← hx] at cx hc
                rw [← hy] at cy hc
                have HX := hid_mk hx
                have HY := hid_mk hy
                clear hx hy
                cases hlv : lt x y with
                | true =>
                  go_upto_region 22 with fail
                  go_region_held3 (fun w' => w'.cell? ⟨blk, q + 1, none⟩ = some (uV x) ∧ w'.cell? ⟨blk, q, none⟩ = some (uV y)) (first | exact ⟨cx, cy⟩ | exact ⟨by rw [HX.out]; exact HE.out.cell S2 (q + 1) (by omega), by rw [HY.out]; exact HE.out.cell S2 (q) (by omega)⟩) (first | (go_at_call 20; refine hc.mono ?_; rintro e w' ⟨rfl, S2⟩))
                  clear cx cy hc SJ
                  have S4 := HE.out.swapD S2 (q + 1) (q) (by omega) (by omega)
                  have cx := HE.out.cell S2 (q + 1) (by omega)
                  have cy := HE.out.cell S2 (q) (by omega)
                  have fx := HE.out.frz S2 (q + 1) (by omega)
                  have fy := HE.out.frz S2 (q) (by omega)
                  rw [← HX.out] at cx S4
                  rw [← HY.out] at cy S4
                  obtain ⟨uu, cz⟩ := HE.out.again S2 (q + 1) (q) (by omega) (by omega) (uV y)
                  clear S2
                  go_upto_region 23 with fail
                  go_big_region_o
                  clear cx cy cz fx fy
                  generalize (((w'.setCell ⟨blk, q + 1, none⟩ (uV y)).setCell ⟨blk, q, none⟩ (uV x)).drew) = w4 at S4 ⊢
                  go_wp2_with fail
                  go_roundg (b - (q + 2))
                  case measure => omega
                  case rel => exact ⟨q + 1, swp dj (q + 1) q, by go_num, by omega, by omega, S4, (show Hid _ from by show _ = _; rw [← HS.out, shiftUp_go lt b (q + 1) dj hjb (by rw [Nat.add_sub_cancel, ← HX.out, ← HY.out]; exact hlv)]; rfl)⟩
                | false =>
                  go_upto_region 22 with fail
                  go_region_held3 (fun w' => w'.cell? ⟨blk, q + 1, none⟩ = some (uV x) ∧ w'.cell? ⟨blk, q, none⟩ = some (uV y)) (first | exact ⟨cx, cy⟩ | exact ⟨by rw [HX.out]; exact HE.out.cell S2 (q + 1) (by omega), by rw [HY.out]; exact HE.out.cell S2 (q) (by omega)⟩) (first | (go_at_call 20; refine hc.mono ?_; rintro e w' ⟨rfl, S2⟩))
                  clear cx cy hc SJ
                  have hr : Hid (dj = d3) := (shiftUp_stop lt b (q + 1) dj (Or.inr (by rw [Nat.add_sub_cancel, ← HX.out, ← HY.out]; exact hlv))).symm.trans HS.out
                  go_wp2_with fail
                  go_roundg s1
                  case measure => omega
                  case rel => exact ⟨s1, m + 1, t + 1, d3, by go_num, by go_num, by omega, Nat.le_refl _, by omega, by omega, (by rw [← hr.out]; exact S2), (show Hid _ from HP2.out.symm)⟩
              · have hg : ¬ (q : Int) + 1 < (b : Int) := by omega
                have hr : Hid (dj = d3) := (shiftUp_stop lt b (q + 1) dj (Or.inl hjb)).symm.trans HS.out
                go_wp2_with fail
                go_roundg s1
                case measure => omega
                case rel => exact ⟨s1, m + 1, t + 1, d3, by go_num, by go_num, by omega, Nat.le_refl _, by omega, by omega, (by rw [← hr.out]; exact SJ), (show Hid _ from HP2.out.symm)⟩
          · have h2z : ¬ (2 : Int) ≤ (b : Int) - ((m : Int) + 1) := by omega
            have hr : Hid (d3 = d2) := by show _ = _; rw [HD3.out, if_neg h2]
            go_wp2_with fail
            go_roundg s1
            case measure => omega
            case rel => exact ⟨s1, m + 1, t + 1, d3, by go_num, by go_num, by omega, Nat.le_refl _, by omega, by omega, (by rw [hr.out]; exact S5), (show Hid _ from HP2.out.symm)⟩

end Go.Proofs.Ybulkdkxi.lawS5598AWhole

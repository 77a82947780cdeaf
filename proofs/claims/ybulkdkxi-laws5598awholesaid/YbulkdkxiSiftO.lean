import Derived.Test.YbulkdkxiEnv
namespace Go.Proofs.Ybulkdkxi.lawS5598AWhole
open Go.RowKit Go.Deep
open Go.Sort (swp size_swp siftDown)
set_option linter.unusedVariables false
set_option linter.unusedSimpArgs false

variable {blk n cap : Nat} {lt : Int → Int → Bool} {S : Array Int → World → Prop}

theorem sift_end_o (lt : Int → Int → Bool) (hi fi r : Nat) (d : Array Int) (h : hi ≤ 2 * r + 1) : siftDown lt hi fi r d = d := by
  rw [siftDown, dif_pos h]
theorem sift_one_o (lt : Int → Int → Bool) (hi fi r : Nat) (d : Array Int) (h : ¬ hi ≤ 2 * r + 1) (h2 : (decide (2 * r + 1 + 1 < hi) && lt d[fi + (2 * r + 1)]! d[fi + (2 * r + 1) + 1]!) = false) :
    siftDown lt hi fi r d = if lt d[fi + r]! d[fi + (2 * r + 1)]! = true then siftDown lt hi fi (2 * r + 1) (swp d (fi + r) (fi + (2 * r + 1))) else d := by
  rw [siftDown, dif_neg h, if_neg (by rw [h2]; simp)]
  cases lt d[fi + r]! d[fi + (2 * r + 1)]! <;> simp
theorem sift_two_o (lt : Int → Int → Bool) (hi fi r : Nat) (d : Array Int) (h : ¬ hi ≤ 2 * r + 1) (h1 : 2 * r + 1 + 1 < hi) (h2 : lt d[fi + (2 * r + 1)]! d[fi + (2 * r + 1) + 1]! = true) :
    siftDown lt hi fi r d = if lt d[fi + r]! d[fi + (2 * r + 2)]! = true then siftDown lt hi fi (2 * r + 2) (swp d (fi + r) (fi + (2 * r + 2))) else d := by
  rw [siftDown, dif_neg h, if_pos (by rw [h2]; simp [h1])]
  cases lt d[fi + r]! d[fi + (2 * r + 2)]! <;> simp [show 2 * r + 2 < hi by omega]

set_option maxRecDepth 100000 in
set_option maxHeartbeats 16000000 in
theorem sift_o (E : Env blk n S) (C : LessOk n lt S) (hn : n ≤ 4096) (lo hi fi : Nat) (d : Array Int) (w : World) (h : S d w) (hlo : lo ≤ hi) (hb : fi + hi ≤ n) :
    Calls Yba.prog 43 #[.slice (some ⟨blk, 0, none⟩) n cap, .int .i64 lo, .int .i64 hi, .int .i64 fi] w fun e w' => e = .returned (.tuple #[]) ∧ S (siftDown lt hi fi lo d) w' := by
  have mixed := mixedY
  have HE := hid_mk E
  have HC := hid_mk C
  clear E C
  go_enter Yba.func43, Yba.ntmps43
  go_wp2_with fail
  go_loopg [8] (hi + 1) (fun g1 vr wr => ∃ (r : Nat) (dk : Array Int), vr = .int .i64 r ∧ r ≤ hi ∧ hi - r ≤ g1 ∧ S dk wr ∧ Hid (siftDown lt hi fi r dk = siftDown lt hi fi lo d))
  case atStart => exact ⟨lo, d, rfl, hlo, by omega, h, rfl⟩
  case round =>
    obtain ⟨r, dk, rfl, hrh, hg1, SK, HS⟩ := hrel
    clear h
    obtain ⟨c, hc⟩ : ∃ c, c = 2 * r + 1 := ⟨_, rfl⟩
    have hz1 : (2 : Int) * (r : Int) + 1 = (c : Int) := by omega
    have HCc := hid_mk hc
    have hcr : r < c := by omega
    clear hc
    by_cases hend : hi ≤ c
    · have he1 : (hi : Int) ≤ (c : Int) := by omega
      go_wp2_with fail
      go_end0
      refine ⟨rfl, ?_⟩
      rw [← HS.out, sift_end_o _ _ _ _ _ (by have := HCc.out; omega)]
      exact SK
    · have he1 : ¬ (hi : Int) ≤ (c : Int) := by omega
      obtain ⟨fr, hfr⟩ : ∃ x, x = fi + r := ⟨_, rfl⟩
      have hz2 : (fi : Int) + (r : Int) = (fr : Int) := by omega
      have HFR := hid_mk hfr
      have hfrn : fr < n := by omega
      obtain ⟨fc, hfc⟩ : ∃ x, x = fi + c := ⟨_, rfl⟩
      have hz3 : (fi : Int) + (c : Int) = (fc : Int) := by omega
      have HFC := hid_mk hfc
      have hfcn : fc < n := by omega
      have hne : fr < fc := by omega
      have hw0 : IntKind.i64.wrap (fr : Int) = (fr : Int) := by rw [IntKind.wrap_i64]; omega
      have hw1 : IntKind.i64.wrap (fc : Int) = (fc : Int) := by rw [IntKind.wrap_i64]; omega
      have hw2 : IntKind.i64.wrap ((fc : Int) + 1) = (fc : Int) + 1 := by rw [IntKind.wrap_i64]; omega
      have hw3 : IntKind.i64.wrap ((c : Int) + 1) = (c : Int) + 1 := by rw [IntKind.wrap_i64]; omega
      have hw4 : IntKind.i64.wrap ((c : Int)) = (c : Int) := by rw [IntKind.wrap_i64]; omega
      have hq0 : ((fc : Int) + 1).toNat = fc + 1 := by omega
      have hq1 : (0 : Int) ≤ (fc : Int) + 1 := by omega
      have hb0 : (fr : Int) < (n : Int) := by omega
      have hb1 : (fc : Int) < (n : Int) := by omega
      by_cases h2 : c + 1 < hi
      · have h2z : decide ((c : Int) + 1 < (hi : Int)) = true := decide_eq_true (by omega)
        have h2y : (c : Int) + 1 < (hi : Int) := by omega
        have hb2 : (fc : Int) + 1 < (n : Int) := by omega
        clear hfr hfc
        go_upto_region 3 with fail
        obtain ⟨x, hx⟩ : ∃ x, x = dk[fc]! := ⟨_, rfl⟩
        obtain ⟨y, hy⟩ : ∃ y, y = dk[fc + 1]! := ⟨_, rfl⟩
        have cx := HE.out.cell (HE.out.drew SK) (fc) (by omega)
        have cy := HE.out.cell (HE.out.drew SK) (fc + 1) (by omega)
        have hc := HC.out.call dk _ (HE.out.drew SK) (fc) (fc + 1) (by omega) (by omega)
        rw [← hx] at cx hc
        rw [← hy] at cy hc
        have HX := hid_mk hx
        have HY := hid_mk hy
        clear hx hy
        cases hlv : lt x y with
        | true =>
          have hlaw : Hid (siftDown lt hi fi r dk = if lt dk[fr]! dk[fc + 1]! = true then siftDown lt hi fi (c + 1) (swp dk fr (fc + 1)) else dk) := by
            show _ = _
            have hh := HCc.out
            have hh2 := HFC.out
            rw [sift_two_o lt hi fi r dk (by omega) (by omega) (by rw [show fi + (2 * r + 1) = fc by omega, ← HX.out, ← HY.out]; exact hlv), show fi + (2 * r + 2) = fc + 1 by omega, show 2 * r + 2 = c + 1 by omega, ← HFR.out]
          go_upto_region 3 with fail
          go_region_held3 (fun w' => w'.cell? ⟨blk, fc, none⟩ = some (uV x) ∧ w'.cell? ⟨blk, fc + 1, none⟩ = some (uV y)) (first | exact ⟨cx, cy⟩ | exact ⟨by rw [HX.out]; exact HE.out.cell S2 (fc) (by omega), by rw [HY.out]; exact HE.out.cell S2 (fc + 1) (by omega)⟩) (first | (go_at_call 20; refine hc.mono ?_; rintro e w' ⟨rfl, S2⟩))
          clear cx cy hc SK
          clear HX HY hlv
          obtain ⟨fd, hfd⟩ : ∃ q, q = fc + 1 := ⟨_, rfl⟩
          obtain ⟨cd, hcd⟩ : ∃ q, q = c + 1 := ⟨_, rfl⟩
          have hz4 : (fi : Int) + ((c : Int) + 1) = (fd : Int) := by omega
          have hz6 : (fi : Int) + (cd : Int) = (fd : Int) := by omega
          have hz5 : (c : Int) + 1 = (cd : Int) := by omega
          rw [← hfd, ← hcd] at hlaw
          have hfdn : fd < n := by omega
          have hb3 : (fd : Int) < (n : Int) := by omega
          have hw5 : IntKind.i64.wrap (fd : Int) = (fd : Int) := by rw [IntKind.wrap_i64]; omega
          have hw6 : IntKind.i64.wrap (cd : Int) = (cd : Int) := by rw [IntKind.wrap_i64]; omega
          have hne2 : fr < fd := by omega
          have hcdh : cd < hi := by omega
          have hcdr : r < cd := by omega
          clear hw2 hw3 h2z h2y hb2 hq0 hq1 hfd hcd
          go_wp2_with fail
          obtain ⟨x, hx⟩ : ∃ x, x = dk[fr]! := ⟨_, rfl⟩
          obtain ⟨y, hy⟩ : ∃ y, y = dk[fd]! := ⟨_, rfl⟩
          have cx := HE.out.cell (HE.out.drew S2) (fr) (by omega)
          have cy := HE.out.cell (HE.out.drew S2) (fd) (by omega)
          have hc := HC.out.call dk _ (HE.out.drew S2) (fr) (fd) (by omega) (by omega)
          rw [← hx] at cx hc
          rw [← hy] at cy hc
          have HX := hid_mk hx
          have HY := hid_mk hy
          clear hx hy
          cases hlv : lt x y with
          | true =>
            go_upto_region 5 with fail
            go_region_held3 (fun w' => w'.cell? ⟨blk, fr, none⟩ = some (uV x) ∧ w'.cell? ⟨blk, fd, none⟩ = some (uV y)) (first | exact ⟨cx, cy⟩ | exact ⟨by rw [HX.out]; exact HE.out.cell S3 (fr) (by omega), by rw [HY.out]; exact HE.out.cell S3 (fd) (by omega)⟩) (first | (go_at_call 20; refine hc.mono ?_; rintro e w' ⟨rfl, S3⟩))
            clear cx cy hc S2
            have S4 := HE.out.swapD S3 (fr) (fd) (by omega) (by omega)
            have cx := HE.out.cell S3 (fr) (by omega)
            have cy := HE.out.cell S3 (fd) (by omega)
            have fx := HE.out.frz S3 (fr) (by omega)
            have fy := HE.out.frz S3 (fd) (by omega)
            rw [← HX.out] at cx S4
            rw [← HY.out] at cy S4
            obtain ⟨uu, cz⟩ := HE.out.again S3 (fr) (fd) (by omega) (by omega) (uV y)
            clear S3
            go_upto_region 6 with fail
            go_big_region_o
            clear cx cy cz fx fy
            generalize (((w'.setCell ⟨blk, fr, none⟩ (uV y)).setCell ⟨blk, fd, none⟩ (uV x)).drew) = w4 at S4 ⊢
            go_wp2_with fail
            go_roundg (hi - cd)
            case measure => omega
            case rel => exact ⟨cd, swp dk fr (fd), by go_num, by omega, by omega, S4, (show Hid _ from by show _ = _; rw [← HS.out, hlaw.out, if_pos (by rw [← HX.out, ← HY.out]; exact hlv)])⟩
          | false =>
            go_upto_region 5 with fail
            go_region_held3 (fun w' => w'.cell? ⟨blk, fr, none⟩ = some (uV x) ∧ w'.cell? ⟨blk, fd, none⟩ = some (uV y)) (first | exact ⟨cx, cy⟩ | exact ⟨by rw [HX.out]; exact HE.out.cell S3 (fr) (by omega), by rw [HY.out]; exact HE.out.cell S3 (fd) (by omega)⟩) (first | (go_at_call 20; refine hc.mono ?_; rintro e w' ⟨rfl, S3⟩))
            clear cx cy hc S2
            go_wp2_with fail
            (try simp only [Exit.inBlock, Exit.then]); refine bodyPost_ret (results_none rfl _ _ _) rfl ?_
            refine ⟨rfl, ?_⟩
            rw [← HS.out, hlaw.out, if_neg (by rw [← HX.out, ← HY.out, hlv]; simp)]
            exact S3
        | false =>
          have hlaw : Hid (siftDown lt hi fi r dk = if lt dk[fr]! dk[fc]! = true then siftDown lt hi fi c (swp dk fr fc) else dk) := by
            show _ = _
            have hh := HCc.out
            have hh2 := HFC.out
            rw [sift_one_o lt hi fi r dk (by omega) (by rw [show fi + (2 * r + 1) = fc by omega, ← HX.out, ← HY.out, hlv]; simp), show fi + (2 * r + 1) = fc by omega, show 2 * r + 1 = c by omega, ← HFR.out]
          go_upto_region 3 with fail
          go_region_held3 (fun w' => w'.cell? ⟨blk, fc, none⟩ = some (uV x) ∧ w'.cell? ⟨blk, fc + 1, none⟩ = some (uV y)) (first | exact ⟨cx, cy⟩ | exact ⟨by rw [HX.out]; exact HE.out.cell S2 (fc) (by omega), by rw [HY.out]; exact HE.out.cell S2 (fc + 1) (by omega)⟩) (first | (go_at_call 20; refine hc.mono ?_; rintro e w' ⟨rfl, S2⟩))
          clear cx cy hc SK
          clear HX HY hlv
          go_wp2_with fail
          obtain ⟨x, hx⟩ : ∃ x, x = dk[fr]! := ⟨_, rfl⟩
          obtain ⟨y, hy⟩ : ∃ y, y = dk[fc]! := ⟨_, rfl⟩
          have cx := HE.out.cell (HE.out.drew S2) (fr) (by omega)
          have cy := HE.out.cell (HE.out.drew S2) (fc) (by omega)
          have hc := HC.out.call dk _ (HE.out.drew S2) (fr) (fc) (by omega) (by omega)
          rw [← hx] at cx hc
          rw [← hy] at cy hc
          have HX := hid_mk hx
          have HY := hid_mk hy
          clear hx hy
          cases hlv : lt x y with
          | true =>
            go_upto_region 5 with fail
            go_region_held3 (fun w' => w'.cell? ⟨blk, fr, none⟩ = some (uV x) ∧ w'.cell? ⟨blk, fc, none⟩ = some (uV y)) (first | exact ⟨cx, cy⟩ | exact ⟨by rw [HX.out]; exact HE.out.cell S3 (fr) (by omega), by rw [HY.out]; exact HE.out.cell S3 (fc) (by omega)⟩) (first | (go_at_call 20; refine hc.mono ?_; rintro e w' ⟨rfl, S3⟩))
            clear cx cy hc S2
            have S4 := HE.out.swapD S3 (fr) (fc) (by omega) (by omega)
            have cx := HE.out.cell S3 (fr) (by omega)
            have cy := HE.out.cell S3 (fc) (by omega)
            have fx := HE.out.frz S3 (fr) (by omega)
            have fy := HE.out.frz S3 (fc) (by omega)
            rw [← HX.out] at cx S4
            rw [← HY.out] at cy S4
            obtain ⟨uu, cz⟩ := HE.out.again S3 (fr) (fc) (by omega) (by omega) (uV y)
            clear S3
            go_upto_region 6 with fail
            go_big_region_o
            clear cx cy cz fx fy
            generalize (((w'.setCell ⟨blk, fr, none⟩ (uV y)).setCell ⟨blk, fc, none⟩ (uV x)).drew) = w4 at S4 ⊢
            go_wp2_with fail
            go_roundg (hi - c)
            case measure => omega
            case rel => exact ⟨c, swp dk fr (fc), by go_num, by omega, by omega, S4, (show Hid _ from by show _ = _; rw [← HS.out, hlaw.out, if_pos (by rw [← HX.out, ← HY.out]; exact hlv)])⟩
          | false =>
            go_upto_region 5 with fail
            go_region_held3 (fun w' => w'.cell? ⟨blk, fr, none⟩ = some (uV x) ∧ w'.cell? ⟨blk, fc, none⟩ = some (uV y)) (first | exact ⟨cx, cy⟩ | exact ⟨by rw [HX.out]; exact HE.out.cell S3 (fr) (by omega), by rw [HY.out]; exact HE.out.cell S3 (fc) (by omega)⟩) (first | (go_at_call 20; refine hc.mono ?_; rintro e w' ⟨rfl, S3⟩))
            clear cx cy hc S2
            go_wp2_with fail
            (try simp only [Exit.inBlock, Exit.then]); refine bodyPost_ret (results_none rfl _ _ _) rfl ?_
            refine ⟨rfl, ?_⟩
            rw [← HS.out, hlaw.out, if_neg (by rw [← HX.out, ← HY.out, hlv]; simp)]
            exact S3
      · have h2z : decide ((c : Int) + 1 < (hi : Int)) = false := decide_eq_false (by omega)
        have h2y : ¬ (c : Int) + 1 < (hi : Int) := by omega
        have hlaw : Hid (siftDown lt hi fi r dk = if lt dk[fr]! dk[fc]! = true then siftDown lt hi fi c (swp dk fr fc) else dk) := by
          show _ = _
          have hh := HCc.out
          rw [sift_one_o lt hi fi r dk (by omega) (by rw [show decide (2 * r + 1 + 1 < hi) = false from decide_eq_false (by omega)]; rfl), show 2 * r + 1 = c by omega, ← HFR.out, ← HFC.out]
        clear hfr hfc
        go_upto_region 3 with fail
        go_quiet (fail)
        have S2 := HE.out.drewN SK nq
        clear SK
        generalize wr.drewN nq = w2 at S2 ⊢
        go_wp2_with fail
        obtain ⟨x, hx⟩ : ∃ x, x = dk[fr]! := ⟨_, rfl⟩
        obtain ⟨y, hy⟩ : ∃ y, y = dk[fc]! := ⟨_, rfl⟩
        have cx := HE.out.cell (HE.out.drew S2) (fr) (by omega)
        have cy := HE.out.cell (HE.out.drew S2) (fc) (by omega)
        have hc := HC.out.call dk _ (HE.out.drew S2) (fr) (fc) (by omega) (by omega)
        rw [← hx] at cx hc
        rw [← hy] at cy hc
        have HX := hid_mk hx
        have HY := hid_mk hy
        clear hx hy
        cases hlv : lt x y with
        | true =>
          go_upto_region 5 with fail
          go_region_held3 (fun w' => w'.cell? ⟨blk, fr, none⟩ = some (uV x) ∧ w'.cell? ⟨blk, fc, none⟩ = some (uV y)) (first | exact ⟨cx, cy⟩ | exact ⟨by rw [HX.out]; exact HE.out.cell S3 (fr) (by omega), by rw [HY.out]; exact HE.out.cell S3 (fc) (by omega)⟩) (first | (go_at_call 20; refine hc.mono ?_; rintro e w' ⟨rfl, S3⟩))
          clear cx cy hc S2
          have S4 := HE.out.swapD S3 (fr) (fc) (by omega) (by omega)
          have cx := HE.out.cell S3 (fr) (by omega)
          have cy := HE.out.cell S3 (fc) (by omega)
          have fx := HE.out.frz S3 (fr) (by omega)
          have fy := HE.out.frz S3 (fc) (by omega)
          rw [← HX.out] at cx S4
          rw [← HY.out] at cy S4
          obtain ⟨uu, cz⟩ := HE.out.again S3 (fr) (fc) (by omega) (by omega) (uV y)
          clear S3
          go_upto_region 6 with fail
          go_big_region_o
          clear cx cy cz fx fy
          generalize (((w'.setCell ⟨blk, fr, none⟩ (uV y)).setCell ⟨blk, fc, none⟩ (uV x)).drew) = w4 at S4 ⊢
          go_wp2_with fail
          go_roundg (hi - c)
          case measure => omega
          case rel => exact ⟨c, swp dk fr (fc), by go_num, by omega, by omega, S4, (show Hid _ from by show _ = _; rw [← HS.out, hlaw.out, if_pos (by rw [← HX.out, ← HY.out]; exact hlv)])⟩
        | false =>
          go_upto_region 5 with fail
          go_region_held3 (fun w' => w'.cell? ⟨blk, fr, none⟩ = some (uV x) ∧ w'.cell? ⟨blk, fc, none⟩ = some (uV y)) (first | exact ⟨cx, cy⟩ | exact ⟨by rw [HX.out]; exact HE.out.cell S3 (fr) (by omega), by rw [HY.out]; exact HE.out.cell S3 (fc) (by omega)⟩) (first | (go_at_call 20; refine hc.mono ?_; rintro e w' ⟨rfl, S3⟩))
          clear cx cy hc S2
          go_wp2_with fail
          (try simp only [Exit.inBlock, Exit.then]); refine bodyPost_ret (results_none rfl _ _ _) rfl ?_
          refine ⟨rfl, ?_⟩
          rw [← HS.out, hlaw.out, if_neg (by rw [← HX.out, ← HY.out, hlv]; simp)]
          exact S3

end Go.Proofs.Ybulkdkxi.lawS5598AWhole

import Derived.Test.YbulkdkxiEnv
namespace Go.Proofs.Ybulkdkxi.lawS5598AWhole
open Go.RowKit Go.Deep
open Go.Sort (swp size_swp insOuter insInner)
set_option linter.unusedVariables false
set_option linter.unusedSimpArgs false

variable {blk n cap : Nat} {lt : Int → Int → Bool} {S : Array Int → World → Prop}

set_option maxRecDepth 100000 in
set_option maxHeartbeats 4000000 in
theorem ins_o (E : Env blk n S) (C : LessOk n lt S) (hn : n ≤ 4096) (a b : Nat) (d : Array Int) (w : World) (h : S d w) (hab : a ≤ b) (hb : b ≤ n) :
    Calls Yba.prog 24 #[.slice (some ⟨blk, 0, none⟩) n cap, .int .i64 a, .int .i64 b] w fun e w' => e = .returned (.tuple #[]) ∧ S (Sort.insertionSort lt d a b) w' := by
  have mixed := mixedY
  have HE := hid_mk E
  have HC := hid_mk C
  clear E C
  go_enter Yba.func24, Yba.ntmps24
  go_wp2_with fail
  go_loopg [6] (b - a) (fun g1 vi wr => ∃ (i : Nat) (dk : Array Int), vi = .int .i64 i ∧ a < i ∧ i ≤ b + 1 ∧ b + 1 - i ≤ g1 + 1 ∧ S dk wr ∧ Hid (insOuter lt a b i dk = insOuter lt a b (a + 1) d))
  case atStart => exact ⟨a + 1, d, by go_num, by omega, by omega, by omega, h, rfl⟩
  case round =>
    obtain ⟨i, dk, rfl, hai, hib, hg1, S1, HO⟩ := hrel
    clear h
    by_cases hlt : i < b
    · have hltz : (i : Int) < (b : Int) := by omega
      go_wp2_with fail
      go_loopg [7] i (fun g2 vj wr2 => ∃ (j : Nat) (dj : Array Int), vj = .int .i64 j ∧ a ≤ j ∧ j ≤ i ∧ j ≤ g2 ∧ S dj wr2 ∧ Hid (insInner lt a j dj = insInner lt a i dk))
      case atStart => exact ⟨i, dk, rfl, by omega, Nat.le_refl _, Nat.le_refl _, S1, rfl⟩
      case round =>
        clear S1
        obtain ⟨j, dj, rfl, haj, hji, hg2, SJ, HI⟩ := hrel
        have OUT : Hid ((j ≤ a ∨ lt dj[j]! dj[j - 1]! = false) → insOuter lt a b (i + 1) dj = insOuter lt a b (a + 1) d) := fun hs => by
          rw [← HO.out, insOuter_go _ _ _ _ _ hlt, ← HI.out, insInner_stop _ _ _ _ hs]
        by_cases hja : a < j
        · obtain ⟨q, rfl⟩ : ∃ q, j = q + 1 := ⟨j - 1, by omega⟩
          have hga : decide ((q : Int) + 1 > (a : Int)) = true := decide_eq_true (by omega)
          have hq0 : ((q : Int) + 1).toNat = q + 1 := by omega
          have hq1 : (0 : Int) ≤ (q : Int) + 1 := by omega
          have hq2 : (q : Int) + 1 < (n : Int) := by omega
          have hq3 : (q : Int) < (n : Int) := by omega
          have hq4 : IntKind.i64.wrap ((q : Int) + 1) = (q : Int) + 1 := by rw [IntKind.wrap_i64]; omega
          have hq5 : IntKind.i64.wrap (q : Int) = (q : Int) := by rw [IntKind.wrap_i64]; omega
          obtain ⟨x, hx⟩ : ∃ x, x = dj[q + 1]! := ⟨_, rfl⟩
          obtain ⟨y, hy⟩ : ∃ y, y = dj[q]! := ⟨_, rfl⟩
          have cx := HE.out.cell (HE.out.drew SJ) (q + 1) (by omega)
          have cy := HE.out.cell (HE.out.drew SJ) (q) (by omega)
          have hc := HC.out.call dj _ (HE.out.drew SJ) (q + 1) (q) (by omega) (by omega)
          rw [← hx] at cx hc
          rw [← hy] at cy hc
          have HX := hid_mk hx
          have HY := hid_mk hy
          clear hx hy
          cases hlv : lt x y with
          | true =>
            go_upto_region 4 with fail
            go_region_held3 (fun w' => w'.cell? ⟨blk, q + 1, none⟩ = some (uV x) ∧ w'.cell? ⟨blk, q, none⟩ = some (uV y)) (first | exact ⟨cx, cy⟩ | exact ⟨by rw [HX.out]; exact HE.out.cell S2 (q + 1) (by omega), by rw [HY.out]; exact HE.out.cell S2 (q) (by omega)⟩) (first | (go_at_call 20; refine hc.mono ?_; rintro e w' ⟨rfl, S2⟩))
            clear cx cy hc SJ
            have S3 := HE.out.swapD S2 (q + 1) (q) (by omega) (by omega)
            have cx := HE.out.cell S2 (q + 1) (by omega)
            have cy := HE.out.cell S2 (q) (by omega)
            have fx := HE.out.frz S2 (q + 1) (by omega)
            have fy := HE.out.frz S2 (q) (by omega)
            rw [← HX.out] at cx S3
            rw [← HY.out] at cy S3
            obtain ⟨uu, cz⟩ := HE.out.again S2 (q + 1) (q) (by omega) (by omega) (uV y)
            clear S2
            go_upto_region 6 with fail
            go_big_region_o
            clear cx cy cz fx fy
            generalize (((w'.setCell ⟨blk, q + 1, none⟩ (uV y)).setCell ⟨blk, q, none⟩ (uV x)).drew) = w3 at S3 ⊢
            go_wp2_with fail
            go_roundg q
            case measure => omega
            case rel => exact ⟨q, swp dj (q + 1) q, by go_num, by omega, by omega, Nat.le_refl _, S3, (show Hid _ from by rw [← HI.out, insInner_go lt a (q + 1) dj hja (by rw [Nat.add_sub_cancel, ← HX.out, ← HY.out]; exact hlv)]; exact rfl)⟩
          | false =>
            go_upto_region 4 with fail
            go_region_held3 (fun w' => w'.cell? ⟨blk, q + 1, none⟩ = some (uV x) ∧ w'.cell? ⟨blk, q, none⟩ = some (uV y)) (first | exact ⟨cx, cy⟩ | exact ⟨by rw [HX.out]; exact HE.out.cell S2 (q + 1) (by omega), by rw [HY.out]; exact HE.out.cell S2 (q) (by omega)⟩) (first | (go_at_call 20; refine hc.mono ?_; rintro e w' ⟨rfl, S2⟩))
            clear cx cy hc SJ
            go_wp2_with fail
            go_roundg (b - (i + 1))
            case measure => omega
            case rel => exact ⟨i + 1, dj, by go_num, by omega, by omega, by omega, S2, OUT.out (Or.inr (by rw [Nat.add_sub_cancel, ← HX.out, ← HY.out]; exact hlv))⟩
        · have hga : decide ((j : Int) > (a : Int)) = false := decide_eq_false (by omega)
          have hga' : ¬ (a : Int) < (j : Int) := by omega
          go_upto_region 4 with fail
          go_quiet (fail)
          go_wp2_with fail
          go_roundg (b - (i + 1))
          case measure => omega
          case rel => exact ⟨i + 1, dj, by go_num, by omega, by omega, by omega, HE.out.drewN SJ _, OUT.out (Or.inl (by omega))⟩
    · have hltz : ¬ (i : Int) < (b : Int) := by omega
      go_wp2_with fail
      go_end0
      exact ⟨rfl, by unfold Sort.insertionSort; rw [← HO.out, insOuter_stop _ _ _ _ _ hlt]; exact S1⟩

end Go.Proofs.Ybulkdkxi.lawS5598AWhole

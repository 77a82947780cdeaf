import Derived.Test.YbulkdkxiEnv
namespace Go.Proofs.Ybulkdkxi.lawS5598AWhole
open Go.RowKit Go.Deep
open Go.Sort (swp size_swp insOuter insInner)
set_option linter.unusedVariables false
set_option linter.unusedSimpArgs false

variable {blk n ob db cap : Nat} {cf : Int → Int → Int} {S : Nat → Array Int → World → Prop}

set_option maxRecDepth 100000 in
set_option maxHeartbeats 4000000 in
theorem ins_c (E : ∀ t, Env blk n (S t)) (C : CmpOk n ob db cf S) (hn : n ≤ 4096) (tk : Nat) (a b : Nat) (d : Array Int) (w : World) (h : S tk d w) (hab : a ≤ b) (hb : b ≤ n) (htk : 17000000 ≤ tk) :
    Calls Yba.prog 35 #[.slice (some ⟨blk, 0, none⟩) n cap, .int .i64 a, .int .i64 b, cmpV ob db] w fun e w' => e = .returned (.tuple #[]) ∧ S (tk - (17000000)) (Sort.insertionSort (ltc cf) d a b) w' := by
  have mixed := mixedY
  have HE := hid_mk E
  have HC := hid_mk C
  clear E C
  go_enter Yba.func35, Yba.ntmps35
  go_wp2_with fail
  go_loopg [8] (b - a) (fun g1 vi wr => ∃ (i : Nat) (dk : Array Int), vi = .int .i64 i ∧ a < i ∧ i ≤ b + 1 ∧ b + 1 - i ≤ g1 + 1 ∧ S (tk - ((i - a) * 4096)) dk wr ∧ Hid (insOuter (ltc cf) a b i dk = insOuter (ltc cf) a b (a + 1) d))
  case atStart => exact ⟨a + 1, d, by go_num, by omega, by omega, by omega, (HC.out.mono h (by omega)), rfl⟩
  case round =>
    obtain ⟨i, dk, rfl, hai, hib, hg1, S1, HO⟩ := hrel
    clear h
    by_cases hlt : i < b
    · have hltz : (i : Int) < (b : Int) := by omega
      go_wp2_with fail
      go_loopg [9] i (fun g2 vj wr2 => ∃ (j : Nat) (dj : Array Int), vj = .int .i64 j ∧ a ≤ j ∧ j ≤ i ∧ j ≤ g2 ∧ S (tk - ((i - a) * 4096 + (i - j))) dj wr2 ∧ Hid (insInner (ltc cf) a j dj = insInner (ltc cf) a i dk))
      case atStart => exact ⟨i, dk, rfl, by omega, Nat.le_refl _, Nat.le_refl _, (HC.out.mono S1 (by omega)), rfl⟩
      case round =>
        clear S1
        obtain ⟨j, dj, rfl, haj, hji, hg2, SJ, HI⟩ := hrel
        have OUT : Hid ((j ≤ a ∨ (ltc cf) dj[j]! dj[j - 1]! = false) → insOuter (ltc cf) a b (i + 1) dj = insOuter (ltc cf) a b (a + 1) d) := fun hs => by
          rw [← HO.out, insOuter_go _ _ _ _ _ hlt, ← HI.out, insInner_stop _ _ _ _ hs]
        by_cases hja : a < j
        · obtain ⟨q, rfl⟩ : ∃ q, j = q + 1 := ⟨j - 1, by omega⟩
          have hga : decide ((q : Int) + 1 > (a : Int)) = true := decide_eq_true (by omega)
          have hq0 : ((q : Int) + 1).toNat = q + 1 := by omega
          have hq1 : (0 : Int) ≤ (q : Int) + 1 := by omega
          have hq2 : (q : Int) + 1 < (n : Int) := by omega
          have hq3 : (q : Int) < (n : Int) := by omega
          have hq4 : IntKind.i64.wrap ((q : Int) + 1) = (q : Int) + 1 := by rw [IntKind.wrap_i64]; omega
          have hq5 : IntKind.i64.wrap (q : Int) = (q : Int) := by rw [IntKind.wrap_i64]; omega
          obtain ⟨x, hx⟩ : ∃ x, x = dj[q + 1]! := ⟨_, rfl⟩
          obtain ⟨y, hy⟩ : ∃ y, y = dj[q]! := ⟨_, rfl⟩
          have cx := (HE.out _).cell ((HE.out _).drew SJ) (q + 1) (by omega)
          have cy := (HE.out _).cell ((HE.out _).drew SJ) (q) (by omega)
          have hc := HC.out.call _ dj _ ((HE.out _).drew SJ) (q + 1) (q) (by omega) (by omega) (by omega)
          rw [← hx] at cx hc
          rw [← hy] at cy hc
          have HX := hid_mk hx
          have HY := hid_mk hy
          clear hx hy
          cases hlv : (ltc cf) x y with
          | true =>
            have hd : decide (cf x y < 0) = true := hlv
            go_upto_region 4 with fail
            go_region_held3 (fun w' => w'.cell? ⟨blk, q + 1, none⟩ = some (uV x) ∧ w'.cell? ⟨blk, q, none⟩ = some (uV y)) (first | exact ⟨cx, cy⟩ | exact ⟨by rw [HX.out]; exact (HE.out _).cell S2 (q + 1) (by omega), by rw [HY.out]; exact (HE.out _).cell S2 (q) (by omega)⟩) (first | (go_at_call 16; refine hc.mono ?_; rintro e w' ⟨rfl, S2⟩))
            clear cx cy hc SJ
            have S3 := (HE.out _).swapD S2 (q + 1) (q) (by omega) (by omega)
            have cx := (HE.out _).cell S2 (q + 1) (by omega)
            have cy := (HE.out _).cell S2 (q) (by omega)
            have fx := (HE.out _).frz S2 (q + 1) (by omega)
            have fy := (HE.out _).frz S2 (q) (by omega)
            rw [← HX.out] at cx S3
            rw [← HY.out] at cy S3
            obtain ⟨uu, cz⟩ := (HE.out _).again S2 (q + 1) (q) (by omega) (by omega) (uV y)
            clear S2
            go_upto_region 6 with fail
            go_big_region_o
            clear cx cy cz fx fy
            generalize (((w'.setCell ⟨blk, q + 1, none⟩ (uV y)).setCell ⟨blk, q, none⟩ (uV x)).drew) = w3 at S3 ⊢
            go_wp2_with fail
            go_roundg q
            case measure => omega
            case rel => exact ⟨q, swp dj (q + 1) q, by go_num, by omega, by omega, Nat.le_refl _, (HC.out.mono S3 (by omega)), (show Hid _ from by rw [← HI.out, insInner_go (ltc cf) a (q + 1) dj hja (by rw [Nat.add_sub_cancel, ← HX.out, ← HY.out]; exact hlv)]; exact rfl)⟩
          | false =>
            have hd : decide (cf x y < 0) = false := hlv
            go_upto_region 4 with fail
            go_region_held3 (fun w' => w'.cell? ⟨blk, q + 1, none⟩ = some (uV x) ∧ w'.cell? ⟨blk, q, none⟩ = some (uV y)) (first | exact ⟨cx, cy⟩ | exact ⟨by rw [HX.out]; exact (HE.out _).cell S2 (q + 1) (by omega), by rw [HY.out]; exact (HE.out _).cell S2 (q) (by omega)⟩) (first | (go_at_call 16; refine hc.mono ?_; rintro e w' ⟨rfl, S2⟩))
            clear cx cy hc SJ
            go_wp2_with fail
            go_roundg (b - (i + 1))
            case measure => omega
            case rel => exact ⟨i + 1, dj, by go_num, by omega, by omega, by omega, (HC.out.mono S2 (by omega)), OUT.out (Or.inr (by rw [Nat.add_sub_cancel, ← HX.out, ← HY.out]; exact hlv))⟩
        · have hga : decide ((j : Int) > (a : Int)) = false := decide_eq_false (by omega)
          have hga' : ¬ (a : Int) < (j : Int) := by omega
          go_upto_region 4 with fail
          go_quiet (fail)
          go_wp2_with fail
          go_roundg (b - (i + 1))
          case measure => omega
          case rel => exact ⟨i + 1, dj, by go_num, by omega, by omega, by omega, (HC.out.mono ((HE.out _).drewN SJ _) (by omega)), OUT.out (Or.inl (by omega))⟩
    · have hltz : ¬ (i : Int) < (b : Int) := by omega
      go_wp2_with fail
      go_end0
      exact ⟨rfl, by unfold Sort.insertionSort; rw [← HO.out, insOuter_stop _ _ _ _ _ hlt]; exact (HC.out.mono S1 (by omega))⟩

end Go.Proofs.Ybulkdkxi.lawS5598AWhole

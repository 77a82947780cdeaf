import Derived.Test.YbulkdkxiSiftC
namespace Go.Proofs.Ybulkdkxi.lawS5598AWhole
open Go.RowKit Go.Deep
open Go.Sort (swp size_swp siftDown heapBuild heapPop heapSort)
set_option linter.unusedVariables false
set_option linter.unusedSimpArgs false

variable {blk n ob db cap : Nat} {cf : Int → Int → Int} {S : Nat → Array Int → World → Prop}

set_option maxRecDepth 100000 in
set_option maxHeartbeats 16000000 in
theorem heap_c (E : ∀ t, Env blk n (S t)) (C : CmpOk n ob db cf S) (hn : n ≤ 4096) (tk : Nat) (a b : Nat) (d : Array Int) (w : World) (h : S tk d w) (hab : a < b) (hb : b ≤ n) (htk : 70000000 ≤ tk) :
    Calls Yba.prog 36 #[.slice (some ⟨blk, 0, none⟩) n cap, .int .i64 a, .int .i64 b, cmpV ob db] w fun e w' => e = .returned (.tuple #[]) ∧ S (tk - (70000000)) (heapSort (ltc cf) d a b) w' := by
  have mixed := mixedY
  have hsift := hid_mk (fun tk lo hi fi d w => sift_c (cap := cap) E C hn tk lo hi fi d w)
  have HE := hid_mk E
  have HC := hid_mk C
  clear E C
  obtain ⟨m, rfl⟩ : ∃ m, b = a + m := ⟨b - a, by omega⟩
  have hz1 : (a : Int) + (m : Int) - (a : Int) = (m : Int) := by omega
  obtain ⟨hf, hhf⟩ : ∃ q, q = (m - 1) / 2 := ⟨_, rfl⟩
  have hz2 : ((m : Int) - 1) / 2 = (hf : Int) := by omega
  have hz3 : ((m : Int) - 1).tdiv 2 = (hf : Int) := by rw [Int.tdiv_eq_ediv_of_nonneg (by omega)]; exact hz2
  have HF := hid_mk hhf
  have hfm : hf < m := by omega
  clear hhf
  go_enter Yba.func36, Yba.ntmps36
  go_upto_block 0 with fail
  go_cut [11] (fun s wx => S (tk - ((hf + 1) * 8200)) (heapBuild (ltc cf) m a (hf + 1) d) wx)
  case first => as_aux_lemma =>
    go_wp2_with fail
    go_loopg [11] (hf + 2) (fun g1 vi wr => ∃ (i : Nat) (dk : Array Int), vi = .int .i64 ((i : Int) - 1) ∧ i ≤ hf + 1 ∧ i ≤ g1 ∧ S (tk - ((hf + 1 - i) * 8200)) dk wr ∧ Hid (heapBuild (ltc cf) m a i dk = heapBuild (ltc cf) m a (hf + 1) d))
    case atStart => exact ⟨hf + 1, d, by go_num, Nat.le_refl _, by omega, (HC.out.mono h (by omega)), rfl⟩
    case round =>
      obtain ⟨i, dk, rfl, hi1, hg1, SK, HB⟩ := hrel
      clear h
      by_cases hi0 : i = 0
      · subst hi0
        have hneg : ¬ (0 : Int) ≤ ((0 : Nat) : Int) - 1 := by omega
        go_wp2_with fail
        go_meet
        case rel => rw [← HB.out]; exact (HC.out.mono SK (by omega))
      · obtain ⟨j, rfl⟩ : ∃ j, i = j + 1 := ⟨i - 1, by omega⟩
        have hc := hsift.out _ j m a dk _ SK (by omega) (by omega) (by omega)
        go_wp2_with (first | (go_at_call 48; refine hc.mono ?_; rintro e w' ⟨rfl, S2⟩))
        go_roundg j
        case measure => omega
        case rel => exact ⟨j, siftDown (ltc cf) m a j dk, by go_num, by omega, Nat.le_refl _, (HC.out.mono S2 (by omega)), (show Hid _ from HB.out)⟩
  case rest => as_aux_lemma =>
    clear h
    have S1 := hcut
    clear hcut
    obtain ⟨d1, hd1⟩ : ∃ q, q = heapBuild (ltc cf) m a (hf + 1) d := ⟨_, rfl⟩
    rw [← hd1] at S1
    have hfin : Hid (heapSort (ltc cf) d a (a + m) = heapPop (ltc cf) a m d1) := by
      show _ = _
      unfold heapSort
      rw [Nat.add_sub_cancel_left, hd1, HF.out]
    clear hd1
    go_wp2_with fail
    go_loopg [12] (m + 1) (fun g1 vi wr => ∃ (i : Nat) (dk : Array Int), vi = .int .i64 ((i : Int) - 1) ∧ i ≤ m ∧ i ≤ g1 ∧ S (tk - ((hf + 1) * 8200 + (m - i) * 8200)) dk wr ∧ Hid (heapPop (ltc cf) a i dk = heapPop (ltc cf) a m d1))
    case atStart => exact ⟨m, d1, by go_num, Nat.le_refl _, by omega, (HC.out.mono S1 (by omega)), rfl⟩
    case round =>
      obtain ⟨i, dk, rfl, hi1, hg1, SK, HB⟩ := hrel
      clear S1
      by_cases hi0 : i = 0
      · subst hi0
        have hneg : ¬ (0 : Int) ≤ ((0 : Nat) : Int) - 1 := by omega
        go_wp2_with fail
        go_end0
        exact ⟨rfl, by rw [hfin.out, ← HB.out]; exact (HC.out.mono SK (by omega))⟩
      · obtain ⟨j, rfl⟩ : ∃ j, i = j + 1 := ⟨i - 1, by omega⟩
        obtain ⟨aj, haj⟩ : ∃ q, q = a + j := ⟨_, rfl⟩
        have hz4 : (a : Int) + (j : Int) = (aj : Int) := by omega
        have hajn : aj < n := by omega
        have hz5 : (aj : Int) < (n : Int) := by omega
        have hz6 : (a : Int) < (n : Int) := by omega
        have hw1 : IntKind.i64.wrap (aj : Int) = (aj : Int) := by rw [IntKind.wrap_i64]; omega
        have HAJ := hid_mk haj
        have han : a < n := by omega
        clear haj
        have S3 := (HE.out _).swapD SK (a) (aj) (by omega) (by omega)
        obtain ⟨xs, hxs⟩ : ∃ x, x = dk[a]! := ⟨_, rfl⟩
        obtain ⟨ys, hys⟩ : ∃ y, y = dk[aj]! := ⟨_, rfl⟩
        have cx := (HE.out _).cell SK (a) (by omega)
        have cy := (HE.out _).cell SK (aj) (by omega)
        have fx := (HE.out _).frz SK (a) (by omega)
        have fy := (HE.out _).frz SK (aj) (by omega)
        rw [← hxs] at cx S3
        rw [← hys] at cy S3
        obtain ⟨uu, cz⟩ := (HE.out _).again SK (a) (aj) (by omega) (by omega) (uV ys)
        clear hxs hys SK
        go_upto_region 10 with fail
        go_big_region_o
        clear cx cy cz fx fy
        generalize (((wr.setCell ⟨blk, a, none⟩ (uV ys)).setCell ⟨blk, aj, none⟩ (uV xs)).drew) = w3 at S3 ⊢
        have hc := hsift.out _ 0 j a _ _ S3 (by omega) (by omega) (by omega)
        go_wp2_with (first | (go_at_call 48; refine hc.mono ?_; rintro e w' ⟨rfl, S2⟩))
        go_roundg j
        case measure => omega
        case rel => exact ⟨j, siftDown (ltc cf) j a 0 (swp dk a aj), by go_num, by omega, Nat.le_refl _, (HC.out.mono S2 (by omega)), (show Hid _ from by show _ = _; rw [← HB.out, HAJ.out]; rfl)⟩

end Go.Proofs.Ybulkdkxi.lawS5598AWhole

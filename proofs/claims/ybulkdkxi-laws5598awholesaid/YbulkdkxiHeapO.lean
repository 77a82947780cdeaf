import Derived.Test.YbulkdkxiSiftO
namespace Go.Proofs.Ybulkdkxi.lawS5598AWhole
open Go.RowKit Go.Deep
open Go.Sort (swp size_swp siftDown heapBuild heapPop heapSort)
set_option linter.unusedVariables false
set_option linter.unusedSimpArgs false

variable {blk n cap : Nat} {lt : Int → Int → Bool} {S : Array Int → World → Prop}

set_option maxRecDepth 100000 in
set_option maxHeartbeats 16000000 in
theorem heap_o (E : Env blk n S) (C : LessOk n lt S) (hn : n ≤ 4096) (a b : Nat) (d : Array Int) (w : World) (h : S d w) (hab : a < b) (hb : b ≤ n) :
    Calls Yba.prog 25 #[.slice (some ⟨blk, 0, none⟩) n cap, .int .i64 a, .int .i64 b] w fun e w' => e = .returned (.tuple #[]) ∧ S (heapSort lt d a b) w' := by
  have mixed := mixedY
  have hsift := hid_mk (fun lo hi fi d w => sift_o (cap := cap) E C hn lo hi fi d w)
  have HE := hid_mk E
  have HC := hid_mk C
  clear E C
  obtain ⟨m, rfl⟩ : ∃ m, b = a + m := ⟨b - a, by omega⟩
  have hz1 : (a : Int) + (m : Int) - (a : Int) = (m : Int) := by omega
  obtain ⟨hf, hhf⟩ : ∃ q, q = (m - 1) / 2 := ⟨_, rfl⟩
  have hz2 : ((m : Int) - 1) / 2 = (hf : Int) := by omega
  have hz3 : ((m : Int) - 1).tdiv 2 = (hf : Int) := by rw [Int.tdiv_eq_ediv_of_nonneg (by omega)]; exact hz2
  have HF := hid_mk hhf
  have hfm : hf < m := by omega
  clear hhf
  go_enter Yba.func25, Yba.ntmps25
  go_upto_block 0 with fail
  go_cut [9] (fun s wx => S (heapBuild lt m a (hf + 1) d) wx)
  case first => as_aux_lemma =>
    go_wp2_with fail
    go_loopg [9] (hf + 2) (fun g1 vi wr => ∃ (i : Nat) (dk : Array Int), vi = .int .i64 ((i : Int) - 1) ∧ i ≤ hf + 1 ∧ i ≤ g1 ∧ S dk wr ∧ Hid (heapBuild lt m a i dk = heapBuild lt m a (hf + 1) d))
    case atStart => exact ⟨hf + 1, d, by go_num, Nat.le_refl _, by omega, h, rfl⟩
    case round =>
      obtain ⟨i, dk, rfl, hi1, hg1, SK, HB⟩ := hrel
      clear h
      by_cases hi0 : i = 0
      · subst hi0
        have hneg : ¬ (0 : Int) ≤ ((0 : Nat) : Int) - 1 := by omega
        go_wp2_with fail
        go_meet
        case rel => rw [← HB.out]; exact SK
      · obtain ⟨j, rfl⟩ : ∃ j, i = j + 1 := ⟨i - 1, by omega⟩
        have hc := hsift.out j m a dk _ SK (by omega) (by omega)
        go_wp2_with (first | (go_at_call 43; refine hc.mono ?_; rintro e w' ⟨rfl, S2⟩))
        go_roundg j
        case measure => omega
        case rel => exact ⟨j, siftDown lt m a j dk, by go_num, by omega, Nat.le_refl _, S2, (show Hid _ from HB.out)⟩
  case rest => as_aux_lemma =>
    clear h
    have S1 := hcut
    clear hcut
    obtain ⟨d1, hd1⟩ : ∃ q, q = heapBuild lt m a (hf + 1) d := ⟨_, rfl⟩
    rw [← hd1] at S1
    have hfin : Hid (heapSort lt d a (a + m) = heapPop lt a m d1) := by
      show _ = _
      unfold heapSort
      rw [Nat.add_sub_cancel_left, hd1, HF.out]
    clear hd1
    go_wp2_with fail
    go_loopg [10] (m + 1) (fun g1 vi wr => ∃ (i : Nat) (dk : Array Int), vi = .int .i64 ((i : Int) - 1) ∧ i ≤ m ∧ i ≤ g1 ∧ S dk wr ∧ Hid (heapPop lt a i dk = heapPop lt a m d1))
    case atStart => exact ⟨m, d1, by go_num, Nat.le_refl _, by omega, S1, rfl⟩
    case round =>
      obtain ⟨i, dk, rfl, hi1, hg1, SK, HB⟩ := hrel
      clear S1
      by_cases hi0 : i = 0
      · subst hi0
        have hneg : ¬ (0 : Int) ≤ ((0 : Nat) : Int) - 1 := by omega
        go_wp2_with fail
        go_end0
        exact ⟨rfl, by rw [hfin.out, ← HB.out]; exact SK⟩
      · obtain ⟨j, rfl⟩ : ∃ j, i = j + 1 := ⟨i - 1, by omega⟩
        obtain ⟨aj, haj⟩ : ∃ q, q = a + j := ⟨_, rfl⟩
        have hz4 : (a : Int) + (j : Int) = (aj : Int) := by omega
        have hajn : aj < n := by omega
        have hz5 : (aj : Int) < (n : Int) := by omega
        have hz6 : (a : Int) < (n : Int) := by omega
        have hw1 : IntKind.i64.wrap (aj : Int) = (aj : Int) := by rw [IntKind.wrap_i64]; omega
        have HAJ := hid_mk haj
        have han : a < n := by omega
        clear haj
        have S3 := HE.out.swapD SK (a) (aj) (by omega) (by omega)
        obtain ⟨xs, hxs⟩ : ∃ x, x = dk[a]! := ⟨_, rfl⟩
        obtain ⟨ys, hys⟩ : ∃ y, y = dk[aj]! := ⟨_, rfl⟩
        have cx := HE.out.cell SK (a) (by omega)
        have cy := HE.out.cell SK (aj) (by omega)
        have fx := HE.out.frz SK (a) (by omega)
        have fy := HE.out.frz SK (aj) (by omega)
        rw [← hxs] at cx S3
        rw [← hys] at cy S3
        obtain ⟨uu, cz⟩ := HE.out.again SK (a) (aj) (by omega) (by omega) (uV ys)
        clear hxs hys SK
        go_upto_region 10 with fail
        go_big_region_o
        clear cx cy cz fx fy
        generalize (((wr.setCell ⟨blk, a, none⟩ (uV ys)).setCell ⟨blk, aj, none⟩ (uV xs)).drew) = w3 at S3 ⊢
        have hc := hsift.out 0 j a _ _ S3 (by omega) (by omega)
        go_wp2_with (first | (go_at_call 43; refine hc.mono ?_; rintro e w' ⟨rfl, S2⟩))
        go_roundg j
        case measure => omega
        case rel => exact ⟨j, siftDown lt j a 0 (swp dk a aj), by go_num, by omega, Nat.le_refl _, S2, (show Hid _ from by show _ = _; rw [← HB.out, HAJ.out]; rfl)⟩

end Go.Proofs.Ybulkdkxi.lawS5598AWhole

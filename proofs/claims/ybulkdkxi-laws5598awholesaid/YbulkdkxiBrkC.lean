import Derived.Test.YbulkdkxiEnv
import Derived.Test.YbulkdkxiLay
namespace Go.Proofs.Ybulkdkxi.lawS5598AWhole
open Go.RowKit Go.Deep
open Go.Sort (swp size_swp)
set_option linter.unusedVariables false
set_option linter.unusedSimpArgs false

variable {blk n ob db cap : Nat} {cf : Int → Int → Int} {S : Array Int → World → Prop}

/-- What is asked of a step that permutes. -/
def PermS_c (S : Array Int → World → Prop) (d : Array Int) (a b : Nat) (e : Ending) (w : World) : Prop :=
  ∃ d', e = .returned (.tuple #[]) ∧ Sort.PermIn a b d d' ∧ S d' w

set_option maxRecDepth 100000 in
set_option maxHeartbeats 4000000 in
theorem rev_c (E : Env blk n S) (hn : n ≤ 4096) (a b : Nat) (d : Array Int) (w : World) (h : S d w) (hab : a < b) (hb : b ≤ n) :
    Calls Yba.prog 39 #[.slice (some ⟨blk, 0, none⟩) n cap, .int .i64 a, .int .i64 b, cmpV ob db] w fun e w' => PermS_c S d a b e w' := by
  have mixed := mixedY
  have HE := hid_mk E
  clear E
  obtain ⟨jb, rfl⟩ : ∃ q, b = q + 1 := ⟨b - 1, by omega⟩
  go_enter Yba.func39, Yba.ntmps39
  go_wp2_with fail
  go_loopg [8, 9] (jb + 1) (fun g1 vi vj wr => ∃ (i j : Nat) (dk : Array Int), vi = .int .i64 i ∧ vj = .int .i64 j ∧ a ≤ i ∧ j ≤ jb ∧ j ≤ g1 ∧ S dk wr ∧ Hid (Sort.PermIn a (jb + 1) d dk))
  case atStart => exact ⟨a, jb, d, by go_num, by go_num, Nat.le_refl _, Nat.le_refl _, by omega, h, Sort.permIn_refl _ _ _⟩
  case round =>
    obtain ⟨i, j, dk, rfl, rfl, hai, hjb, hg1, SK, HP⟩ := hrel
    clear h
    by_cases hij : i < j
    · obtain ⟨q, rfl⟩ : ∃ q, j = q + 1 := ⟨j - 1, by omega⟩
      have hz1 : (i : Int) < (q : Int) + 1 := by omega
      have hq0 : ((q : Int) + 1).toNat = q + 1 := by omega
      have hq1 : (0 : Int) ≤ (q : Int) + 1 := by omega
      have hq2 : (q : Int) + 1 < (n : Int) := by omega
      have hq3 : (i : Int) < (n : Int) := by omega
      have hsz := HE.out.size SK
      have HP2 := hid_mk (Sort.permIn_trans _ _ _ _ _ HP.out (Sort.swp_permIn dk a (jb + 1) i (q + 1) hai (by omega) (by omega) (by omega) (by omega)))
      clear hsz
      have S3 := HE.out.swapD SK (i) (q + 1) (by omega) (by omega)
      obtain ⟨xs, hxs⟩ : ∃ x, x = dk[i]! := ⟨_, rfl⟩
      obtain ⟨ys, hys⟩ : ∃ y, y = dk[q + 1]! := ⟨_, rfl⟩
      have cx := HE.out.cell SK (i) (by omega)
      have cy := HE.out.cell SK (q + 1) (by omega)
      have fx := HE.out.frz SK (i) (by omega)
      have fy := HE.out.frz SK (q + 1) (by omega)
      rw [← hxs] at cx S3
      rw [← hys] at cy S3
      obtain ⟨uu, cz⟩ := HE.out.again SK (i) (q + 1) (by omega) (by omega) (uV ys)
      clear hxs hys SK
      go_upto_region 3 with fail
      go_big_region_o
      clear cx cy cz fx fy
      generalize (((wr.setCell ⟨blk, i, none⟩ (uV ys)).setCell ⟨blk, q + 1, none⟩ (uV xs)).drew) = w3 at S3 ⊢
      go_wp2_with fail
      go_roundg q
      case measure => omega
      case rel => exact ⟨i + 1, q, swp dk i (q + 1), by go_num, by go_num, by omega, by omega, Nat.le_refl _, S3, HP2⟩
    · have hz1 : ¬ (i : Int) < (j : Int) := by omega
      go_wp2_with fail
      go_end0
      exact ⟨dk, rfl, HP.out, SK⟩

theorem pow_c (m : Nat) (hm : m ≤ 4096) (w : World) : Calls Yba.prog 44 #[.int .i64 m] w fun e w' => e = .returned (.int .u64 ((2 ^ Sort.bitsLen m : Nat) : Int)) ∧ w' = w := by
  have h := AnyF.nextPowerOfTwo Yba.layPow m (by omega) w
  rw [Nat.one_shiftLeft] at h
  exact h

theorem next_c (c X : Nat) (hX : X < 18446744073709551616) (w : World) (hc : w.cell? ⟨c, 0, none⟩ = some (.int .u64 X)) (hf : w.frozen? ⟨c, 0, none⟩ = false) :
    Calls Yba.prog 45 #[pt c] w fun e w' => e = .returned (.int .u64 (Sort.xorNextN X : Nat)) ∧ w' = (w.setCell ⟨c, 0, none⟩ (.int .u64 (Sort.xorNextN X : Nat))).drewN 3 :=
  AnyF.xorshift_Next Yba.layNext c 0 X hX w hc hf

set_option maxRecDepth 100000 in
set_option maxHeartbeats 4000000 in
theorem brk_c (M : RndOk blk n S) (hn : n ≤ 4096) (a b : Nat) (d : Array Int) (w : World) (h : S d w) (hab : a + 12 < b) (hb : b ≤ n) :
    Calls Yba.prog 37 #[.slice (some ⟨blk, 0, none⟩) n cap, .int .i64 a, .int .i64 b, cmpV ob db] w fun e w' => PermS_c S d a b e w' := by
  have mixed := mixedY
  obtain ⟨m, rfl⟩ : ∃ m, b = a + m := ⟨b - a, by omega⟩
  obtain ⟨T, E, K, h0, hTS⟩ := M d w m (by omega) h
  have HE := hid_mk E
  have HK := hid_mk K
  have HT := hid_mk hTS
  clear M E K hTS h
  have hz1 : (a : Int) + (m : Int) - (a : Int) = (m : Int) := by omega
  obtain ⟨q, hq⟩ : ∃ q, q = m / 4 := ⟨_, rfl⟩
  have hz2 : (m : Int) / 4 = (q : Int) := by omega
  have hz3 : (m : Int).tdiv 4 = (q : Int) := by rw [Int.tdiv_eq_ediv_of_nonneg (by omega)]; exact hz2
  have hq3 : 3 ≤ q := by omega
  have hqm : q * 4 ≤ m := by omega
  obtain ⟨z0, hz0⟩ : ∃ x, x = a + q * 2 := ⟨_, rfl⟩
  have hz4 : (a : Int) + (q : Int) * 2 = (z0 : Int) := by omega
  have hb1 : a + 6 ≤ z0 ∧ z0 + 2 < a + m := by omega
  clear hz0 hq
  obtain ⟨pw, hpw⟩ : ∃ x, x = 2 ^ Sort.bitsLen m := ⟨_, rfl⟩
  have hp1 : pw ≤ 2 * m := by rw [hpw]; exact Sort.two_pow_bitsLen_le (by omega)
  have hp2 : m < pw := by rw [hpw]; exact Sort.lt_two_pow_bitsLen m
  have hpow := hid_mk (pow_c m (by omega))
  rw [← hpw] at hpow
  clear hpw
  have h8 : (8 : Int) ≤ (m : Int) := by omega
  obtain ⟨c, hc⟩ : ∃ c, c = w.heap.size := ⟨_, rfl⟩
  rw [← hc] at HK
  go_enter Yba.func37, Yba.ntmps37
  go_upto_block 0 with (first | (go_at_call 44; refine (hpow.out _).mono ?_; rintro e w' ⟨rfl, rfl⟩))
  go_wp2_with fail
  rw [← hc]
  generalize (w.alloc (.cells #[.int .u64 (m : Int)] 69)) = w0 at h0 ⊢
  clear hc
  go_loopg [11] 4 (fun g1 vi wr => ∃ (i : Nat) (dk : Array Int), vi = .int .i64 i ∧ z0 ≤ i + 1 ∧ i ≤ z0 + 2 ∧ z0 + 2 - i ≤ g1 ∧ T dk wr ∧ Hid (Sort.PermIn a (a + m) d dk))
  case atStart => exact ⟨z0 - 1, d, by go_num, by omega, by omega, by omega, h0, Sort.permIn_refl _ _ _⟩
  case round =>
    obtain ⟨i, dk, rfl, hi1, hi2, hg1, SK, HP⟩ := hrel
    clear h0
    by_cases hle : i ≤ z0 + 1
    · have hzl : (i : Int) ≤ (z0 : Int) + 1 := by omega
      obtain ⟨X, hX, cX⟩ := HK.out.cell SK
      have fX := HK.out.frz SK
      have hN := next_c c X hX wr cX fX
      obtain ⟨Y, hY⟩ : ∃ Y, Y = Sort.xorNextN X := ⟨_, rfl⟩
      have hYl : Y < 18446744073709551616 := by rw [hY]; exact Sort.xorNextN_lt X hX
      rw [← hY] at hN
      have S2 := HE.out.drewN (HK.out.set SK Y hYl) 3
      clear hY cX fX SK
      obtain ⟨O, hO⟩ : ∃ O, O = Y &&& (pw - 1) := ⟨_, rfl⟩
      have eAnd : bits .and .u64 (Y : Int) ((pw : Int) - 1) = (O : Int) := by
        rw [show ((pw : Int) - 1) = ((pw - 1 : Nat) : Int) by omega, bits_and_u64_nat _ _ hYl (by omega), hO]
      have hOl : O < pw := by have : Y &&& (pw - 1) ≤ pw - 1 := Nat.and_le_right; omega
      have HA := hid_mk eAnd
      clear eAnd hO
      go_upto_region 8 with (first | (go_at_call 45; refine hN.mono ?_; rintro e w' ⟨rfl, rfl⟩))
      have hwO : wrap64 (O : Int) = (O : Int) := by simp only [wrap64]; omega
      simp only [HA.out, hwO]
      clear hwO HA
      generalize (wr.setCell ⟨c, 0, none⟩ (.int .u64 (Y : Int))).drewN 3 = w2 at S2 ⊢
      have hin : i < n := by omega
      have hiz : (i : Int) < (n : Int) := by omega
      clear hN hYl
      by_cases hOm : m ≤ O
      · have hOz : (m : Int) ≤ (O : Int) := by omega
        obtain ⟨r, hr⟩ : ∃ r, r = O - m := ⟨_, rfl⟩
        have hzr : (O : Int) - (m : Int) = (r : Int) := by omega
        have hrm : r < m := by omega
        obtain ⟨f, hf⟩ : ∃ f, f = a + r := ⟨_, rfl⟩
        have hzf : (a : Int) + (r : Int) = (f : Int) := by omega
        have hfb : a ≤ f ∧ f < a + m := by omega
        have hfn : (f : Int) < (n : Int) := by omega
        have hwf : IntKind.i64.wrap (f : Int) = (f : Int) := by rw [IntKind.wrap_i64]; omega
        have hsz := HE.out.size S2
        have HP2 := hid_mk (Sort.permIn_trans _ _ _ _ _ HP.out (Sort.swp_permIn dk a (a + m) i f (by omega) (by omega) hfb.1 hfb.2 (by omega)))
        clear hr hf hsz
        go_wp2_with fail
        have S3 := HE.out.swapD S2 (i) (f) (by omega) (by omega)
        obtain ⟨xs, hxs⟩ : ∃ x, x = dk[i]! := ⟨_, rfl⟩
        obtain ⟨ys, hys⟩ : ∃ y, y = dk[f]! := ⟨_, rfl⟩
        have cx := HE.out.cell S2 (i) (by omega)
        have cy := HE.out.cell S2 (f) (by omega)
        have fx := HE.out.frz S2 (i) (by omega)
        have fy := HE.out.frz S2 (f) (by omega)
        rw [← hxs] at cx S3
        rw [← hys] at cy S3
        obtain ⟨uu, cz⟩ := HE.out.again S2 (i) (f) (by omega) (by omega) (uV ys)
        clear hxs hys S2
        go_upto_region 10 with fail
        go_big_region_o
        clear cx cy cz fx fy
        generalize (((w2.setCell ⟨blk, i, none⟩ (uV ys)).setCell ⟨blk, f, none⟩ (uV xs)).drew) = w3 at S3 ⊢
        go_wp2_with fail
        go_roundg (z0 + 1 - i)
        case measure => omega
        case rel => exact ⟨i + 1, swp dk i f, by go_num, by omega, by omega, by omega, S3, HP2⟩
      · have hOz : ¬ (m : Int) ≤ (O : Int) := by omega
        obtain ⟨f, hf⟩ : ∃ f, f = a + O := ⟨_, rfl⟩
        have hzf : (a : Int) + (O : Int) = (f : Int) := by omega
        have hfb : a ≤ f ∧ f < a + m := by omega
        have hfn : (f : Int) < (n : Int) := by omega
        have hwf : IntKind.i64.wrap (f : Int) = (f : Int) := by rw [IntKind.wrap_i64]; omega
        have hsz := HE.out.size S2
        have HP2 := hid_mk (Sort.permIn_trans _ _ _ _ _ HP.out (Sort.swp_permIn dk a (a + m) i f (by omega) (by omega) hfb.1 hfb.2 (by omega)))
        clear hf hsz
        go_wp2_with fail
        have S3 := HE.out.swapD S2 (i) (f) (by omega) (by omega)
        obtain ⟨xs, hxs⟩ : ∃ x, x = dk[i]! := ⟨_, rfl⟩
        obtain ⟨ys, hys⟩ : ∃ y, y = dk[f]! := ⟨_, rfl⟩
        have cx := HE.out.cell S2 (i) (by omega)
        have cy := HE.out.cell S2 (f) (by omega)
        have fx := HE.out.frz S2 (i) (by omega)
        have fy := HE.out.frz S2 (f) (by omega)
        rw [← hxs] at cx S3
        rw [← hys] at cy S3
        obtain ⟨uu, cz⟩ := HE.out.again S2 (i) (f) (by omega) (by omega) (uV ys)
        clear hxs hys S2
        go_upto_region 10 with fail
        go_big_region_o
        clear cx cy cz fx fy
        generalize (((w2.setCell ⟨blk, i, none⟩ (uV ys)).setCell ⟨blk, f, none⟩ (uV xs)).drew) = w3 at S3 ⊢
        go_wp2_with fail
        go_roundg (z0 + 1 - i)
        case measure => omega
        case rel => exact ⟨i + 1, swp dk i f, by go_num, by omega, by omega, by omega, S3, HP2⟩
    · have hzl : ¬ (i : Int) ≤ (z0 : Int) + 1 := by omega
      go_wp2_with fail
      go_end0
      exact ⟨dk, rfl, HP.out, HT.out _ _ SK⟩

end Go.Proofs.Ybulkdkxi.lawS5598AWhole

import Derived.Test.YbulkdkvsRows
import Derived.Test.YbulkdkvsMem
import Derived.WalkLawsBesides
import Derived.WalkSpells
import Derived.ProofKit
import Derived.Deep.LoopGhost
import Derived.Deep.DeepMust
import Derived.Deep.DeepCutAuto
import Derived.Deep.QuietTactic
import Derived.Deep.RegionWith
import Derived.Deep.RegionHeld3
import Derived.BigQuiet
import Derived.BigRegion
import Derived.LaidEqlPtr
namespace Go.Proofs.Ybulkdkvs.lawS5595CWhole
open Go.RowKit Go.Deep
set_option linter.unusedVariables false
set_option linter.unusedSimpArgs false

/-- The predicate 'group >= kk', at the tablet of number i. -/
theorem ok_at (g kb : Nat) (i kk : Int) (w : World) (h1 : w.cell? ⟨g, 6, none⟩ = some (.int .i64 i)) (h2 : w.cell? ⟨kb, 0, none⟩ = some (.int .i64 kk)) :
    Calls Yba.prog 4 #[pt g, pt kb] w fun e w' => e = .returned (.bool (decide (kk ≤ i))) ∧ Chg [] w w' := by
  go_enter Yba.func4, Yba.ntmps4
  go_wp2_with fail
  go_quiet (fail)
  go_wp2_with fail
  go_ret
  exact ⟨by simp, (Chg.refl [] w).drewN _⟩

/-- cmp at a tablet. -/
theorem cmpT_at (g kb fb : Nat) (i kk : Int) (w : World) (h1 : w.cell? ⟨g, 6, none⟩ = some (.int .i64 i)) (h2 : w.cell? ⟨kb, 0, none⟩ = some (.int .i64 kk)) (h3 : w.cell? ⟨fb, 0, none⟩ = some (.func (.func 4) #[] #[pt kb])) :
    Calls Yba.prog 13 #[pt g, .agg #[], pt fb] w fun e w' => e = .returned (.int .i64 (if kk ≤ i then 1 else -1)) ∧ Chg [] w w' := by
  have h1a : ∀ o, (w.alloc o).cell? ⟨g, 6, none⟩ = some (.int .i64 i) := fun o => ((Chg.refl [] w).alloc o).cell h1 (by simp)
  have h2a : ∀ o, (w.alloc o).cell? ⟨kb, 0, none⟩ = some (.int .i64 kk) := fun o => ((Chg.refl [] w).alloc o).cell h2 (by simp)
  have h3a : ∀ o, (w.alloc o).cell? ⟨fb, 0, none⟩ = some (.func (.func 4) #[] #[pt kb]) := fun o => ((Chg.refl [] w).alloc o).cell h3 (by simp)
  by_cases hk : kk ≤ i
  all_goals
    go_enter Yba.func13, Yba.ntmps13
    go_wp2_with fail
    refine (ok_at g kb i kk _ (h1a _) (h2a _)).mono ?_
    rintro e w' ⟨rfl, hch⟩
    go_wp2_with fail
    go_ret
    exact ⟨by simp [hk], ((Chg.refl [] w).alloc _).trans hch⟩

/-- What cmp says of the elements of a row: from p on 1, ahead of it -1. -/
def Cmp (g fb : Nat) (X : Nat → Value) (m p : Nat) (w : World) : Prop :=
  ∀ w', Chg [] w w' → ∀ t, t < m → Calls Yba.prog g #[X t, .agg #[], pt fb] w' fun e w'' => e = .returned (.int .i64 (if p ≤ t then 1 else -1)) ∧ Chg [] w' w''

set_option maxRecDepth 100000 in
set_option maxHeartbeats 4000000 in
theorem searchT (a : Option Addr) (b fb m c p : Nat) (X : Nat → Value) (w : World) (hm : m ≤ 1000000) (hp : p ≤ m) (ha : m = 0 ∨ a = some ⟨b, 0, none⟩) (hX : ∀ t, t < m → w.cell? ⟨b, t, none⟩ = some (X t)) (hcmp : Cmp 13 fb X m p w) :
    Calls Yba.prog 12 #[.slice a m c, .agg #[], .func (.func 13) #[] #[pt fb]] w fun e w' => e = .returned (.tuple #[.int .i64 p, .bool false]) ∧ Chg [] w w' := by
  have HC : Hid (Cmp 13 fb X m p w) := hcmp
  have HX : Hid (∀ t, t < m → w.cell? ⟨b, t, none⟩ = some (X t)) := hX
  clear hcmp hX
  go_enter Yba.func12, Yba.ntmps12
  go_wp2_with fail
  go_loopg [9, 10] m (fun kx s9 s10 wr => ∃ lo hi : Nat, s9 = .int .i64 lo ∧ s10 = .int .i64 hi ∧ lo ≤ p ∧ p ≤ hi ∧ hi ≤ m ∧ hi - lo ≤ kx ∧ Chg [] w wr ∧ wr.rowIs w.heap.size 44 0 (fun _ => undef))
  case atStart => exact ⟨0, m, rfl, rfl, Nat.zero_le _, hp, Nat.le_refl _, by omega, (Chg.refl [] w).alloc _, World.rowIs_alloc w #[] 44 _ (by simp)⟩
  case round =>
    obtain ⟨lo, hi, rfl, rfl, hlp, hph, hin, hg, hch, hrow⟩ := hrel
    by_cases hlt : lo < hi
    · rcases ha with ha | rfl
      · omega
      have cm := hch.cell (HX.out ((lo + hi) / 2) (by omega)) (by simp)
      have hc : ∀ W, Chg [] w W → Calls Yba.prog 13 #[X ((lo + hi) / 2), .agg #[], pt fb] W fun e w'' => e = .returned (.int .i64 (if p ≤ (lo + hi) / 2 then 1 else -1)) ∧ Chg [] W w'' := fun W h => HC.out W h ((lo + hi) / 2) (by omega)
      have hfit : (lo + hi) / 2 < m := by omega
      have hcast : ((lo : Int) + (hi : Int)) / 2 = (((lo + hi) / 2 : Nat) : Int) := by omega
      have hm1 : lo ≤ (lo + hi) / 2 := by omega
      have hm2 : (lo + hi) / 2 < hi := by omega
      generalize (lo + hi) / 2 = mid at *
      by_cases hpm : p ≤ mid
      · simp only [if_pos hpm] at hc
        go_upto_region 5 with fail
        go_region_held3 (fun w' => w'.cell? ⟨b, mid, none⟩ = some (X mid)) (first | exact cm | exact hch2.cell (a := ⟨b, mid, none⟩) cm (by simp)) (first | (go_at_call 13; refine (hc _ hch.drew).mono ?_; rintro e w' ⟨rfl, hch2⟩))
        have hch3 : Chg [] w w' := hch.drew.trans hch2
        have hrow2 := hch2.row hrow.drew (by simp)
        clear hc cm hch hrow hch2
        go_wp2_with fail
        go_roundg (mid - lo)
        case rel => exact ⟨lo, mid, rfl, rfl, hlp, hpm, by omega, Nat.le_refl _, hch3, hrow2⟩
        case measure => omega
      · simp only [if_neg hpm] at hc
        go_upto_region 5 with fail
        go_region_held3 (fun w' => w'.cell? ⟨b, mid, none⟩ = some (X mid)) (first | exact cm | exact hch2.cell (a := ⟨b, mid, none⟩) cm (by simp)) (first | (go_at_call 13; refine (hc _ hch.drew).mono ?_; rintro e w' ⟨rfl, hch2⟩))
        have hch3 : Chg [] w w' := hch.drew.trans hch2
        have hrow2 := hch2.row hrow.drew (by simp)
        clear hc cm hch hrow hch2
        go_wp2_with fail
        go_roundg (hi - (mid + 1))
        case rel => exact ⟨mid + 1, hi, by go_num, rfl, by omega, by omega, by omega, Nat.le_refl _, hch3, hrow2⟩
        case measure => omega
    · obtain rfl : lo = p := by omega
      obtain rfl : hi = lo := by omega
      clear hlt hlp hph hg
      by_cases hn : hi < m
      · rcases ha with ha | rfl
        · omega
        have cm := hch.cell (HX.out hi hn) (by simp)
        have hc : ∀ W, Chg [] w W → Calls Yba.prog 13 #[X hi, .agg #[], pt fb] W fun e w'' => e = .returned (.int .i64 1) ∧ Chg [] W w'' := fun W h => by simpa using HC.out W h hi hn
        have hni : decide ((hi : Int) < (m : Int)) = true := by simp; omega
        go_upto_region 8 with fail
        go_region_held3 (fun w' => w'.cell? ⟨b, hi, none⟩ = some (X hi)) (first | exact cm | exact hch2.cell (a := ⟨b, hi, none⟩) cm (by simp)) (first | (go_at_call 13; refine (hc _ hch.drew).mono ?_; rintro e w' ⟨rfl, hch2⟩))
        have hch3 : Chg [] w w' := hch.drew.trans hch2
        clear hc cm hch hrow hch2
        go_wp2_with fail
        go_ret2
        exact ⟨rfl, hch3⟩
      · have hni : decide ((hi : Int) < (m : Int)) = false := by simp; omega
        go_upto_region 8 with fail
        go_quiet (fail)
        go_wp2_with fail
        go_ret2
        exact ⟨rfl, hch.drewN _⟩

set_option maxRecDepth 100000 in
set_option maxHeartbeats 4000000 in
theorem searchC (a : Option Addr) (b fb m c p : Nat) (X : Nat → Value) (w : World) (hm : m ≤ 1000000) (hp : p ≤ m) (ha : m = 0 ∨ a = some ⟨b, 0, none⟩) (hX : ∀ t, t < m → w.cell? ⟨b, t, none⟩ = some (X t)) (hcmp : Cmp 11 fb X m p w) :
    Calls Yba.prog 10 #[.slice a m c, .agg #[], .func (.func 11) #[] #[pt fb]] w fun e w' => e = .returned (.tuple #[.int .i64 p, .bool false]) ∧ Chg [] w w' := by
  have HC : Hid (Cmp 11 fb X m p w) := hcmp
  have HX : Hid (∀ t, t < m → w.cell? ⟨b, t, none⟩ = some (X t)) := hX
  clear hcmp hX
  go_enter Yba.func10, Yba.ntmps10
  go_wp2_with fail
  go_loopg [9, 10] m (fun kx s9 s10 wr => ∃ lo hi : Nat, s9 = .int .i64 lo ∧ s10 = .int .i64 hi ∧ lo ≤ p ∧ p ≤ hi ∧ hi ≤ m ∧ hi - lo ≤ kx ∧ Chg [] w wr ∧ wr.rowIs w.heap.size 44 0 (fun _ => undef))
  case atStart => exact ⟨0, m, rfl, rfl, Nat.zero_le _, hp, Nat.le_refl _, by omega, (Chg.refl [] w).alloc _, World.rowIs_alloc w #[] 44 _ (by simp)⟩
  case round =>
    obtain ⟨lo, hi, rfl, rfl, hlp, hph, hin, hg, hch, hrow⟩ := hrel
    by_cases hlt : lo < hi
    · rcases ha with ha | rfl
      · omega
      have cm := hch.cell (HX.out ((lo + hi) / 2) (by omega)) (by simp)
      have hc : ∀ W, Chg [] w W → Calls Yba.prog 11 #[X ((lo + hi) / 2), .agg #[], pt fb] W fun e w'' => e = .returned (.int .i64 (if p ≤ (lo + hi) / 2 then 1 else -1)) ∧ Chg [] W w'' := fun W h => HC.out W h ((lo + hi) / 2) (by omega)
      have hfit : (lo + hi) / 2 < m := by omega
      have hcast : ((lo : Int) + (hi : Int)) / 2 = (((lo + hi) / 2 : Nat) : Int) := by omega
      have hm1 : lo ≤ (lo + hi) / 2 := by omega
      have hm2 : (lo + hi) / 2 < hi := by omega
      generalize (lo + hi) / 2 = mid at *
      by_cases hpm : p ≤ mid
      · simp only [if_pos hpm] at hc
        go_upto_region 5 with fail
        go_region_held3 (fun w' => w'.cell? ⟨b, mid, none⟩ = some (X mid)) (first | exact cm | exact hch2.cell (a := ⟨b, mid, none⟩) cm (by simp)) (first | (go_at_call 11; refine (hc _ hch.drew).mono ?_; rintro e w' ⟨rfl, hch2⟩))
        have hch3 : Chg [] w w' := hch.drew.trans hch2
        have hrow2 := hch2.row hrow.drew (by simp)
        clear hc cm hch hrow hch2
        go_wp2_with fail
        go_roundg (mid - lo)
        case rel => exact ⟨lo, mid, rfl, rfl, hlp, hpm, by omega, Nat.le_refl _, hch3, hrow2⟩
        case measure => omega
      · simp only [if_neg hpm] at hc
        go_upto_region 5 with fail
        go_region_held3 (fun w' => w'.cell? ⟨b, mid, none⟩ = some (X mid)) (first | exact cm | exact hch2.cell (a := ⟨b, mid, none⟩) cm (by simp)) (first | (go_at_call 11; refine (hc _ hch.drew).mono ?_; rintro e w' ⟨rfl, hch2⟩))
        have hch3 : Chg [] w w' := hch.drew.trans hch2
        have hrow2 := hch2.row hrow.drew (by simp)
        clear hc cm hch hrow hch2
        go_wp2_with fail
        go_roundg (hi - (mid + 1))
        case rel => exact ⟨mid + 1, hi, by go_num, rfl, by omega, by omega, by omega, Nat.le_refl _, hch3, hrow2⟩
        case measure => omega
    · obtain rfl : lo = p := by omega
      obtain rfl : hi = lo := by omega
      clear hlt hlp hph hg
      by_cases hn : hi < m
      · rcases ha with ha | rfl
        · omega
        have cm := hch.cell (HX.out hi hn) (by simp)
        have hc : ∀ W, Chg [] w W → Calls Yba.prog 11 #[X hi, .agg #[], pt fb] W fun e w'' => e = .returned (.int .i64 1) ∧ Chg [] W w'' := fun W h => by simpa using HC.out W h hi hn
        have hni : decide ((hi : Int) < (m : Int)) = true := by simp; omega
        go_upto_region 8 with fail
        go_region_held3 (fun w' => w'.cell? ⟨b, hi, none⟩ = some (X hi)) (first | exact cm | exact hch2.cell (a := ⟨b, hi, none⟩) cm (by simp)) (first | (go_at_call 11; refine (hc _ hch.drew).mono ?_; rintro e w' ⟨rfl, hch2⟩))
        have hch3 : Chg [] w w' := hch.drew.trans hch2
        clear hc cm hch hrow hch2
        go_wp2_with fail
        go_ret2
        exact ⟨rfl, hch3⟩
      · have hni : decide ((hi : Int) < (m : Int)) = false := by simp; omega
        go_upto_region 8 with fail
        go_quiet (fail)
        go_wp2_with fail
        go_ret2
        exact ⟨rfl, hch.drewN _⟩
end Go.Proofs.Ybulkdkvs.lawS5595CWhole

import Derived.Test.YbulkdkveCSegA1
namespace Go.Proofs.Ybulkdkve.lawS5594CWhole
open Go.RowKit Go.Deep
set_option linter.unusedVariables false
set_option linter.unusedSimpArgs false

set_option maxRecDepth 100000 in
set_option maxHeartbeats 4000000 in
theorem entry (a0 : Int) (nm : ByteArray) (a2 : Int) (a3 : Bool) (a4 : Option Addr) (len4 cap4 : Nat) (z4 : Nat → Int) (a5 : Option Addr) (len5 cap5 : Nat) (z5 : Nat → Int) (a6 : Bool) (a7 a8 a9 : Int) (w : World) (hlen : len4 + len5 ≤ 65536) (b0 : 0 ≤ a0 ∧ a0 ≤ 255) (b2 : 0 ≤ a2 ∧ a2 ≤ 255)
    (b7 : 0 ≤ a7 ∧ a7 ≤ 255) (b8 : 0 ≤ a8 ∧ a8 ≤ 65535) (b9 : 0 ≤ a9 ∧ a9 ≤ 65535) (r4 : Rd w a4 len4 z4) (r5 : Rd w a5 len5 z5) (pol : Int) (hpol : pol = if a0 % 2 = 1 then a0 / 2 % 8 else 6) :
    Calls Yba.prog 4 #[.int .u8 a0, .string nm, .int .u8 a2, .bool a3, .slice a4 len4 cap4, .slice a5 len5 cap5, .bool a6, .int .u8 a7, .int .u16 a8, .int .u16 a9] w fun e w' => e = .returned (.bool true) ∧ Below w.heap.size w w' := by
  have HA : Hid ((0 ≤ a7 ∧ a7 ≤ 255) ∧ (0 ≤ a8 ∧ a8 ≤ 65535) ∧ (0 ≤ a9 ∧ a9 ≤ 65535) ∧ Rd w a4 len4 z4 ∧ Rd w a5 len5 z5) := ⟨b7, b8, b9, r4, r5⟩
  clear b7 b8 b9 r4 r5
  obtain ⟨b01, b02⟩ := b0
  obtain ⟨b21, b22⟩ := b2
  have hle : decide ((65536 : Int) < (len4 : Int) + (len5 : Int)) = false := by simp; omega
  obtain ⟨B, hB⟩ : ∃ B, w.heap.size = B := ⟨_, rfl⟩
  have HP : Hid (pol = if a0 % 2 = 1 then a0 / 2 % 8 else 6) := hpol
  have HB : Hid (w.heap.size = B) := hB
  have p1 : 0 ≤ pol := by rw [hpol]; split <;> omega
  have p2 : pol ≤ 7 := by rw [hpol]; split <;> omega
  clear hpol hB
  obtain ⟨mm, hmm⟩ : ∃ mm : Nat, a2 % 3 + 1 = (mm : Int) := ⟨(a2 % 3 + 1).toNat, by omega⟩
  have hmm1 : 1 ≤ mm ∧ mm ≤ 3 := by omega
  go_enter Yba.func4, Yba.ntmps4
  go_upto_if 49 with fail
  go_cut [21] (fun s21 wx => s21 = .int .u8 pol ∧ w = wx)
  case first =>
    by_cases h2 : a0 % 2 = 1
    · have hb : (a0 % 2 == 1) = true := by simp [h2]
      have HH : Hid (a0 % 2 = 1) := h2
      clear h2
      go_wp2_with fail
      go_meet
      case rel => exact ⟨by rw [HP.out, if_pos HH.out], rfl⟩
    · have hb : (a0 % 2 == 1) = false := by simp [h2]
      have HH : Hid (¬ a0 % 2 = 1) := h2
      clear h2
      go_wp2_with fail
      go_meet
      case rel => exact ⟨by rw [HP.out, if_neg HH.out], rfl⟩
  case rest =>
    obtain ⟨rfl, rfl⟩ := hcut
    clear HP
    go_upto_region 12 with fail
    rw [show w.heap.size + 1 + 1 + 1 = B + 3 by rw [HB.out], show w.heap.size + 1 + 1 = B + 2 by rw [HB.out], show w.heap.size + 1 = B + 1 by rw [HB.out], show w.heap.size = B from HB.out]
    go_cut [28] (fun s28 wx => s28 = .int .i64 len5 ∧ Phase B tz0 rz0 nm pol (.slice none 0 0) (.slice none 0 0) [] [] (fun _ => 0) 0 w wx)
    case first => as_aux_lemma =>
      go_wp2_with fail
      go_meet
      case rel => exact ⟨rfl, by rw [← HB.out]; exact phase0 w nm pol _ rfl rfl⟩
    case rest => as_aux_lemma =>
      obtain ⟨rfl, hph⟩ := hcut
      apply_assumption
      exact segA1 _ _ _ _ _ _ _ _ _ _ _ _ _ _ _ _ _ _ _ _ _ _ _ _ _ _ _ _ _ _ _ _ _ _ _ _ _ _ _ _ _ _ _ _ _ _ _ _ _ _ _ _ _ _ _ _ _ _ _ _ _ _ _ _ _ _ _ _ _ _ _ _ _ _ _ _ _ _ _ _ _ _ _ _ _ _ _ _ _ _ _ _ _ _ _ _ _ _ _ _ _ _ _ _ _ _ _ _ _ _ _ _ _ _ _ _ _ _ _ _ _ _ _ _ _ _ _ _ _ _ _ _ _ _ _ _ _ _ _ _ _ _ _ _ _ _ _ _ _ _ _ _ _ _ _ _ _ _ _ _ _ _ _ _ _ _ _ _ _ _ _ _ _ _ _ _ _ _ _ _ _ _ _ _ _ _ _ _ _ _ _ _ _ _ _ _ _ _ _ _ _ _ _ _ _ _ _ _ _ _ _ _ _ _ _ _ _ _ _ _ _ _ _ _ _ _ _ _ _ _ _ _ _ _ _ _ _ _ _ _ _ _ _ _ _ _ _ _ _ _ _ _ _ _ _ _ _ _ _ _ _ _ _ _ _ _ _ _ _ _ _ _ _ _ _ _ _ _ _ _ _ _ _ _ _ _ _ _ _ _ _ _ _ _ _ _ _ _ _ _ _ _ _ _ _ _ _ _ _ _ _ _ _ _ _ _ _ _ _ _ _ _ _ _ _ _ _ _ _ _ _ _ nm pol a3 a6 a4 len4 cap4 z4 a5 len5 cap5 z5 a7 a8 a9 B mm w wc HB.out hlen hmm1 HA.out.1 HA.out.2.1 HA.out.2.2.1 HA.out.2.2.2.1 HA.out.2.2.2.2 hph
end Go.Proofs.Ybulkdkve.lawS5594CWhole

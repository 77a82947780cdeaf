import Derived.Test.YbulkdkveCBase
namespace Go.Proofs.Ybulkdkve.lawS5594CWhole
open Go.RowKit Go.Deep
set_option linter.unusedVariables false
set_option linter.unusedSimpArgs false

set_option maxRecDepth 100000 in
set_option maxHeartbeats 2000000 in
theorem equalL (g1 g2 n c1 c2 b1 b2 : Nat) (ls : List Lk) (w : World) (hn : 0 < n) (hb : n ≤ 100000) (hlen : ls.length = n)
    (h1 : w.ownsRow b1 90 3 (.slice (some ⟨g1, 0, none⟩) n c1) n (flat encL ls)) (h2 : w.ownsRow b2 90 3 (.slice (some ⟨g2, 0, none⟩) n c2) n (flat encL ls)) :
    Calls Yba.prog 13 #[.slice (some ⟨g1, 0, none⟩) n c1, .slice (some ⟨g2, 0, none⟩) n c2] w fun e w' => e = .returned (.bool true) ∧ ∃ m, w' = w.drewN m := by
  have hnn : ((n : Int) != (n : Int)) = false := by simp
  go_enter Yba.func13, Yba.ntmps13
  go_wp2_with fail
  go_loopg [5, 13] n (fun gk s5 i wr => ∃ k m : Nat, k + gk = n ∧ i = .int .i64 k ∧ w.drewN m = wr)
  case atStart => exact ⟨0, 0, by omega, rfl, rfl⟩
  case round =>
    obtain ⟨k, m, hk, rfl, rfl⟩ := hrel
    by_cases hlt : k < n
    · obtain ⟨x, hx⟩ : ∃ x, ls[k]'(by omega) = x := ⟨_, rfl⟩
      have e1 : ∀ j, j < 3 → w.cell? ⟨g1, k * 3 + j, none⟩ = (encL x)[j]? := by
        intro j hj
        rw [h1.cellAt (k * 3 + j) (by have := Nat.mul_le_mul_right 3 (show k + 1 ≤ n by omega); omega), flat_get encL_len ls (by omega) hj, hx]
      have e2 : ∀ j, j < 3 → w.cell? ⟨g2, k * 3 + j, none⟩ = (encL x)[j]? := by
        intro j hj
        rw [h2.cellAt (k * 3 + j) (by have := Nat.mul_le_mul_right 3 (show k + 1 ≤ n by omega); omega), flat_get encL_len ls (by omega) hj, hx]
      have d10 : w.cell? ⟨g1, k * 3, none⟩ = some (pt x.b) := e1 0 (by omega)
      have d11 : w.cell? ⟨g1, k * 3 + 1, none⟩ = some (.int .i64 x.h) := e1 1 (by omega)
      have d12 : w.cell? ⟨g1, k * 3 + 2, none⟩ = some (.int .i64 x.u) := e1 2 (by omega)
      have d20 : w.cell? ⟨g2, k * 3, none⟩ = some (pt x.b) := e2 0 (by omega)
      have d21 : w.cell? ⟨g2, k * 3 + 1, none⟩ = some (.int .i64 x.h) := e2 1 (by omega)
      have d22 : w.cell? ⟨g2, k * 3 + 2, none⟩ = some (.int .i64 x.u) := e2 2 (by omega)
      have hs : ∀ W, (binOp .neq 90 (.agg #[pt x.b, .int .i64 x.h, .int .i64 x.u]) (.agg #[pt x.b, .int .i64 x.h, .int .i64 x.u])).run Yba.prog W = .ok (.bool false) W := fun W => sameL x W
      have hki : (k : Int) < (n : Int) := by omega
      clear hx e1 e2
      go_wp2_with fail
      go_quiet (fail)
      go_wp2_with fail
      go_roundg (gk - 1)
      case rel => exact ⟨k + 1, _, by omega, by go_num, rfl⟩
      case measure => omega
    · go_wp2_with fail
      go_ret
      exact ⟨rfl, _, rfl⟩

set_option maxRecDepth 100000 in
set_option maxHeartbeats 2000000 in
theorem equalH (g1 g2 n c1 c2 b1 b2 : Nat) (ls : List Hd) (w : World) (hn : 0 < n) (hb : n ≤ 100000) (hlen : ls.length = n)
    (h1 : w.ownsRow b1 88 4 (.slice (some ⟨g1, 0, none⟩) n c1) n (flat encH ls)) (h2 : w.ownsRow b2 88 4 (.slice (some ⟨g2, 0, none⟩) n c2) n (flat encH ls)) :
    Calls Yba.prog 14 #[.slice (some ⟨g1, 0, none⟩) n c1, .slice (some ⟨g2, 0, none⟩) n c2] w fun e w' => e = .returned (.bool true) ∧ ∃ m, w' = w.drewN m := by
  have hnn : ((n : Int) != (n : Int)) = false := by simp
  go_enter Yba.func14, Yba.ntmps14
  go_wp2_with fail
  go_loopg [5, 13] n (fun gk s5 i wr => ∃ k m : Nat, k + gk = n ∧ i = .int .i64 k ∧ w.drewN m = wr)
  case atStart => exact ⟨0, 0, by omega, rfl, rfl⟩
  case round =>
    obtain ⟨k, m, hk, rfl, rfl⟩ := hrel
    by_cases hlt : k < n
    · obtain ⟨x, hx⟩ : ∃ x, ls[k]'(by omega) = x := ⟨_, rfl⟩
      have e1 : ∀ j, j < 4 → w.cell? ⟨g1, k * 4 + j, none⟩ = (encH x)[j]? := by
        intro j hj
        rw [h1.cellAt (k * 4 + j) (by have := Nat.mul_le_mul_right 4 (show k + 1 ≤ n by omega); omega), flat_get encH_len ls (by omega) hj, hx]
      have e2 : ∀ j, j < 4 → w.cell? ⟨g2, k * 4 + j, none⟩ = (encH x)[j]? := by
        intro j hj
        rw [h2.cellAt (k * 4 + j) (by have := Nat.mul_le_mul_right 4 (show k + 1 ≤ n by omega); omega), flat_get encH_len ls (by omega) hj, hx]
      have d10 : w.cell? ⟨g1, k * 4, none⟩ = some (pt x.b) := e1 0 (by omega)
      have d11 : w.cell? ⟨g1, k * 4 + 1, none⟩ = some (.int .u8 x.m) := e1 1 (by omega)
      have d12 : w.cell? ⟨g1, k * 4 + 2, none⟩ = some (.int .i32 0) := e1 2 (by omega)
      have d13 : w.cell? ⟨g1, k * 4 + 3, none⟩ = some (.int .i64 x.l) := e1 3 (by omega)
      have d20 : w.cell? ⟨g2, k * 4, none⟩ = some (pt x.b) := e2 0 (by omega)
      have d21 : w.cell? ⟨g2, k * 4 + 1, none⟩ = some (.int .u8 x.m) := e2 1 (by omega)
      have d22 : w.cell? ⟨g2, k * 4 + 2, none⟩ = some (.int .i32 0) := e2 2 (by omega)
      have d23 : w.cell? ⟨g2, k * 4 + 3, none⟩ = some (.int .i64 x.l) := e2 3 (by omega)
      have hs : ∀ W, (binOp .neq 88 (.agg #[pt x.b, .int .u8 x.m, .int .i32 0, .int .i64 x.l]) (.agg #[pt x.b, .int .u8 x.m, .int .i32 0, .int .i64 x.l])).run Yba.prog W = .ok (.bool false) W := fun W => sameH x W
      have hki : (k : Int) < (n : Int) := by omega
      clear hx e1 e2
      go_wp2_with fail
      go_quiet (fail)
      go_wp2_with fail
      go_roundg (gk - 1)
      case rel => exact ⟨k + 1, _, by omega, by go_num, rfl⟩
      case measure => omega
    · go_wp2_with fail
      go_ret
      exact ⟨rfl, _, rfl⟩

end Go.Proofs.Ybulkdkve.lawS5594CWhole

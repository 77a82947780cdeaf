import Derived.Test.YbulkdkveRows
import Derived.Test.YbulkdkveCMem
import Derived.WalkLawsBesides
import Derived.WalkSpells
import Derived.ProofKit
import Derived.Deep.LoopGhost
import Derived.Deep.DeepMust
import Derived.Deep.DeepCutAuto
import Derived.Deep.QuietTactic
import Derived.BigQuiet
import Derived.BigRegion
import Derived.LaidEqlPtr
namespace Go.Proofs.Ybulkdkve.lawS5594CWhole
open Go.RowKit Go.Deep
set_option linter.unusedVariables false
set_option linter.unusedSimpArgs false

/-- A lock among a transaction's: the resource's block, the holder's place, lastUpTo. -/
structure Lk where
  b : Nat
  h : Int
  u : Int
/-- A holder: the transaction's block, the mode, the lock's place. -/
structure Hd where
  b : Nat
  m : Int
  l : Int
def encL (x : Lk) : List Value := [pt x.b, .int .i64 x.h, .int .i64 x.u]
def encH (x : Hd) : List Value := [pt x.b, .int .u8 x.m, .int .i32 0, .int .i64 x.l]
theorem encL_len (x : Lk) : (encL x).length = 3 := rfl
theorem encH_len (x : Hd) : (encH x).length = 4 := rfl
theorem encL_one (x : Lk) : ∀ u ∈ encL x, u.oneCell' = true := by intro u hu; simp [encL] at hu; rcases hu with rfl | rfl | rfl <;> rfl
theorem encH_one (x : Hd) : ∀ u ∈ encH x, u.oneCell' = true := by intro u hu; simp [encH] at hu; rcases hu with rfl | rfl | rfl | rfl <;> rfl
theorem flatL_one (xs : List Lk) : ∀ u ∈ flat encL xs, u.oneCell' = true := by
  intro u hu
  obtain ⟨x, _, hx⟩ := List.mem_flatMap.1 hu
  exact encL_one x u hx
theorem flatH_one (xs : List Hd) : ∀ u ∈ flat encH xs, u.oneCell' = true := by
  intro u hu
  obtain ⟨x, _, hx⟩ := List.mem_flatMap.1 hu
  exact encH_one x u hx

theorem info90 : (Yba.prog.info? 90).map (fun i => (i.zero, i.size, i.bytes)) = some (some (.agg #[.pointer none, .int .i64 0, .int .i64 0]), 3, 24) := by kernel_rfl
theorem info88 : (Yba.prog.info? 88).map (fun i => (i.zero, i.size, i.bytes)) = some (some (.agg #[.pointer none, .int .u8 0, .int .i32 0, .int .i64 0]), 4, 24) := by kernel_rfl


set_option maxRecDepth 100000 in
set_option maxHeartbeats 1000000 in
theorem cloneL_nil (w : World) : Calls Yba.prog 10 #[.slice none 0 0] w fun e w' => e = .returned (.slice none 0 0) ∧ w' = w := by
  have hnl := fun (w : World) (a : Option Addr) (n c : Nat) => Lib.run_eql_slice_nil (P := Yba.prog) w 77 90 a n c 0 0 Yba.underlying77
  go_enter Yba.func10, Yba.ntmps10
  go_wp2
  go_ret
  exact ⟨rfl, rfl⟩

set_option maxRecDepth 100000 in
set_option maxHeartbeats 1000000 in
theorem cloneL_some (g n cap base : Nat) (ls : List Lk) (w : World) (hn : 0 < n) (hb : n ≤ 100000) (hown : w.ownsRow base 90 3 (.slice (some ⟨g, 0, none⟩) n cap) n (flat encL ls)) :
    Calls Yba.prog 10 #[.slice (some ⟨g, 0, none⟩) n cap] w fun e w' => ∃ g' cap', e = .returned (.slice (some ⟨g', 0, none⟩) n cap') ∧ w'.ownsRow w.heap.size 90 3 (.slice (some ⟨g', 0, none⟩) n cap') n (flat encL ls) ∧ Chg [] w w' := by
  have hnl := fun (w : World) (a : Option Addr) (n c : Nat) => Lib.run_eql_slice_nil (P := Yba.prog) w 77 90 a n c 0 0 Yba.underlying77
  obtain ⟨i0, hi, hz0, hz1, hz2⟩ := info_parts info90
  have h0 : (w.alloc (.cells #[] 90)).ownsRow w.heap.size 90 3 (.slice (some ⟨w.heap.size, 0, none⟩) 0 0) 0 [] := World.ownsRow_lit w #[] 0 (Nat.le_refl _) (by unfold maxLen; omega) rfl
  have hc := (hown.alloc (.cells #[] 90)).cells (g := g) rfl
  go_enter Yba.func10, Yba.ntmps10
  go_wp2_with (at_builtin; refine wpList_append_lies _ rfl (.tmp 5) (.tmp 6) 77 rfl w.heap.size 90 i0 _ 3 24 Yba.underlying77 hi hz0 hz1 hz2 rfl (by decide) _ 0 [] rfl h0 ⟨g, 0, none⟩ n cap (flat encL ls) rfl hown.1 hc (flatL_one ls) hn ?h1 ?h2 ?h3 _ rfl ?_)
  case h1 => unfold maxLen; omega
  case h2 => omega
  case h3 => simp
  intro g' cap' w1 hown1 hgrow hat hlt
  go_wp2_with fail
  go_ret
  simp only [Nat.zero_add, List.nil_append] at hown1 ⊢
  exact ⟨_, _, rfl, hown1, ((Chg.refl [] w).alloc _).grown hgrow (by intro k hk hlt; simp [Value.ownBlock] at hk; omega)⟩

/-- A struct against itself. -/
theorem sameL (x : Lk) (w : World) : (binOp .neq 90 (.agg (encL x).toArray) (.agg (encL x).toArray)).run Yba.prog w = .ok (.bool false) w := by
  obtain ⟨i, hi⟩ : ∃ i, Yba.prog.info? 86 = some i := by
    cases h : Yba.prog.info? 86 with
    | some i => exact ⟨i, rfl⟩
    | none =>
      have : (Yba.prog.info? 86).isSome = true := by kernel_rfl
      rw [h] at this
      cases this
  have hp : ∀ d, (Op.equalIn (d + 1) 29 (pt x.b) (pt x.b)).run Yba.prog w = .ok true w := by
    intro d
    simp [Op.equalIn, run_underlying Yba.underlying29, sizeOf, typeInfo, hi, run_sameAddr_same]
  simp [encL, go_sem, hp 9998]



set_option maxRecDepth 100000 in
set_option maxHeartbeats 1000000 in
theorem cloneH_nil (w : World) : Calls Yba.prog 11 #[.slice none 0 0] w fun e w' => e = .returned (.slice none 0 0) ∧ w' = w := by
  have hnl := fun (w : World) (a : Option Addr) (n c : Nat) => Lib.run_eql_slice_nil (P := Yba.prog) w 81 88 a n c 0 0 Yba.underlying81
  go_enter Yba.func11, Yba.ntmps11
  go_wp2
  go_ret
  exact ⟨rfl, rfl⟩

set_option maxRecDepth 100000 in
set_option maxHeartbeats 1000000 in
theorem cloneH_some (g n cap base : Nat) (ls : List Hd) (w : World) (hn : 0 < n) (hb : n ≤ 100000) (hown : w.ownsRow base 88 4 (.slice (some ⟨g, 0, none⟩) n cap) n (flat encH ls)) :
    Calls Yba.prog 11 #[.slice (some ⟨g, 0, none⟩) n cap] w fun e w' => ∃ g' cap', e = .returned (.slice (some ⟨g', 0, none⟩) n cap') ∧ w'.ownsRow w.heap.size 88 4 (.slice (some ⟨g', 0, none⟩) n cap') n (flat encH ls) ∧ Chg [] w w' := by
  have hnl := fun (w : World) (a : Option Addr) (n c : Nat) => Lib.run_eql_slice_nil (P := Yba.prog) w 81 88 a n c 0 0 Yba.underlying81
  obtain ⟨i0, hi, hz0, hz1, hz2⟩ := info_parts info88
  have h0 : (w.alloc (.cells #[] 88)).ownsRow w.heap.size 88 4 (.slice (some ⟨w.heap.size, 0, none⟩) 0 0) 0 [] := World.ownsRow_lit w #[] 0 (Nat.le_refl _) (by unfold maxLen; omega) rfl
  have hc := (hown.alloc (.cells #[] 88)).cells (g := g) rfl
  go_enter Yba.func11, Yba.ntmps11
  go_wp2_with (at_builtin; refine wpList_append_lies _ rfl (.tmp 5) (.tmp 6) 81 rfl w.heap.size 88 i0 _ 4 24 Yba.underlying81 hi hz0 hz1 hz2 rfl (by decide) _ 0 [] rfl h0 ⟨g, 0, none⟩ n cap (flat encH ls) rfl hown.1 hc (flatH_one ls) hn ?h1 ?h2 ?h3 _ rfl ?_)
  case h1 => unfold maxLen; omega
  case h2 => omega
  case h3 => simp
  intro g' cap' w1 hown1 hgrow hat hlt
  go_wp2_with fail
  go_ret
  simp only [Nat.zero_add, List.nil_append] at hown1 ⊢
  exact ⟨_, _, rfl, hown1, ((Chg.refl [] w).alloc _).grown hgrow (by intro k hk hlt; simp [Value.ownBlock] at hk; omega)⟩

/-- A struct against itself. -/
theorem sameH (x : Hd) (w : World) : (binOp .neq 88 (.agg (encH x).toArray) (.agg (encH x).toArray)).run Yba.prog w = .ok (.bool false) w := by
  obtain ⟨i, hi⟩ : ∃ i, Yba.prog.info? 80 = some i := by
    cases h : Yba.prog.info? 80 with
    | some i => exact ⟨i, rfl⟩
    | none =>
      have : (Yba.prog.info? 80).isSome = true := by kernel_rfl
      rw [h] at this
      cases this
  have hp : ∀ d, (Op.equalIn (d + 1) 28 (pt x.b) (pt x.b)).run Yba.prog w = .ok true w := by
    intro d
    simp [Op.equalIn, run_underlying Yba.underlying28, sizeOf, typeInfo, hi, run_sameAddr_same]
  simp [encH, go_sem, hp 9998]



end Go.Proofs.Ybulkdkve.lawS5594CWhole

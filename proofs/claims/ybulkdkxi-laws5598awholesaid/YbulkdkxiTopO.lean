import Derived.Test.YbulkdkxiPdqO
import Derived.Test.YbulkdkxiMem
import Derived.Test.YbulkdkxiLay
/-! slices.Sort at uint32: over whatever worlds; then at a row of the law's own. -/
namespace Go.Proofs.Ybulkdkxi.lawS5598AWhole
open Go.RowKit Go.Deep Go.Shelf
open Go.Sort (swp size_swp)
set_option linter.unusedVariables false
set_option linter.unusedSimpArgs false

variable {blk n cap : Nat} {lt : Int → Int → Bool} {S : Array Int → World → Prop}

theorem len_y (m : Nat) (hm : m ≤ 4096) (w : World) : Calls Yba.prog 19 #[.int .u64 m] w fun e w' => e = .returned (.int .i64 (Lib.bitLen m : Nat)) ∧ w' = w := by
  have h := Any.bits_Len (SlLaysF0.n15.bits Yba.layLen) (m : Int) w (by omega) (by omega)
  rw [Int.toNat_natCast] at h
  exact h

theorem bitLen_small (m : Nat) (hm : m ≤ 4096) : Lib.bitLen m ≤ 100 := Nat.le_trans (Lib.bitLen_le m 62 (by omega) (by omega)) (by omega)

set_option maxRecDepth 100000 in
set_option maxHeartbeats 2000000 in
theorem sort_o (E : Env blk n S) (C : LessOk n lt S) (M : CtrOk_o blk n lt S) (MR : RndOk blk n S) (hO : Sort.SWO lt) (hn : n ≤ 4096) (d : Array Int) (w : World) (h : S d w) :
    Calls Yba.prog 11 #[.slice (some ⟨blk, 0, none⟩) n cap] w fun e w' => PdqS_o lt S d 0 n e w' := by
  have hc := hid_mk (pdq_o (cap := cap) E C M MR hO hn (n + 1) 0 n (Lib.bitLen n) d w (by omega) (bitLen_small n hn) h (Nat.zero_le _) (Nat.le_refl _) (Or.inl rfl))
  have hl := hid_mk (len_y n hn w)
  clear E C M MR h
  have wr : IntKind.u64.wrap (n : Int) = n := by simp [IntKind.wrap, IntKind.bits, IntKind.signed]; omega
  generalize Lib.bitLen n = L at *
  go_enter Yba.func11, Yba.ntmps11
  go_wp2_with (first | (go_at_call 19; refine hl.out.mono ?_; rintro e w' ⟨rfl, rfl⟩) | (go_at_call 18; refine hc.out.mono ?_; rintro e w' ⟨d', rfl, hp, hs, S2⟩))
  go_end0
  exact ⟨d', rfl, hp, hs, S2⟩

set_option maxRecDepth 100000 in
set_option maxHeartbeats 2000000 in
theorem ins_nil_o (w : World) : Calls Yba.prog 24 #[.slice none 0 0, .int .i64 0, .int .i64 0] w fun e w' => e = .returned (.tuple #[]) ∧ w' = w := by
  go_enter Yba.func24, Yba.ntmps24
  go_wp2_with fail
  go_loopg [6] 1 (fun g1 vi wr => vi = .int .i64 1 ∧ wr = w)
  case atStart => exact ⟨rfl, rfl⟩
  case round =>
    obtain ⟨rfl, rfl⟩ := hrel
    go_wp2_with fail
    go_end0
    exact ⟨rfl, rfl⟩

set_option maxRecDepth 100000 in
set_option maxHeartbeats 2000000 in
theorem pdq_nil_o (w : World) : Calls Yba.prog 18 #[.slice none 0 0, .int .i64 0, .int .i64 0, .int .i64 0] w fun e w' => e = .returned (.tuple #[]) ∧ w' = w := by
  have hi := hid_mk (ins_nil_o w)
  go_enter Yba.func18, Yba.ntmps18
  go_wp2_with fail
  go_loopg [1, 2] 1 (fun g1 vi vj wr => vi = .int .i64 0 ∧ vj = .int .i64 0 ∧ wr = w)
  case atStart => exact ⟨rfl, rfl, rfl⟩
  case round =>
    obtain ⟨rfl, rfl, rfl⟩ := hrel
    go_wp2_with (first | (go_at_call 24; refine hi.out.mono ?_; rintro e w' ⟨rfl, rfl⟩))
    (try simp only [Exit.inBlock, Exit.then]); refine bodyPost_ret (results_none rfl _ _ _) rfl ?_
    exact ⟨rfl, rfl⟩

set_option maxRecDepth 100000 in
set_option maxHeartbeats 2000000 in
theorem sort_nil_o (w : World) : Calls Yba.prog 11 #[.slice none 0 0] w fun e w' => e = .returned (.tuple #[]) ∧ w' = w := by
  have hc := hid_mk (pdq_nil_o w)
  have hl : Calls Yba.prog 19 #[.int .u64 0] w fun e w' => e = .returned (.int .i64 0) ∧ w' = w := len_y 0 (by omega) w
  go_enter Yba.func11, Yba.ntmps11
  go_wp2_with (first | (go_at_call 19; refine hl.mono ?_; rintro e w' ⟨rfl, rfl⟩) | (go_at_call 18; refine hc.out.mono ?_; rintro e w' ⟨rfl, rfl⟩))
  go_end0
  exact ⟨rfl, rfl⟩

set_option maxRecDepth 100000 in
set_option maxHeartbeats 2000000 in
theorem isNaN34 (x : Int) (w : World) : Calls Yba.prog 34 #[uV x] w fun e w' => e = .returned (.bool false) ∧ w' = w := by
  go_enter Yba.func34, Yba.ntmps34
  go_wp2_with fail
  go_ret
  exact ⟨rfl, rfl⟩

set_option maxRecDepth 100000 in
set_option maxHeartbeats 2000000 in
theorem less_y (x y : Int) (w : World) : Calls Yba.prog 20 #[uV x, uV y] w fun e w' => e = .returned (.bool (decide (x < y))) ∧ ∃ k, w' = w.drewN k := by
  go_enter Yba.func20, Yba.ntmps20
  go_wp2_with (first | (go_at_call 34; refine (isNaN34 _ _).mono ?_; rintro e w' ⟨rfl, rfl⟩))
  go_ret
  exact ⟨rfl, 0, rfl⟩

end Go.Proofs.Ybulkdkxi.lawS5598AWhole

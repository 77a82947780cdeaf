import Derived.Test.YbulkdkxiPdqC
import Derived.Test.YbulkdkxiTopO
/-! slices.SortFunc at uint32, over whatever worlds. -/
namespace Go.Proofs.Ybulkdkxi.lawS5598AWhole
open Go.RowKit Go.Deep Go.Shelf
open Go.Sort (swp size_swp)
set_option linter.unusedVariables false
set_option linter.unusedSimpArgs false

variable {blk n ob db cap : Nat} {cf : Int → Int → Int} {S : Nat → Array Int → World → Prop}

set_option maxRecDepth 100000 in
set_option maxHeartbeats 2000000 in
theorem sortF_c (E : ∀ t, Env blk n (S t)) (C : CmpOk n ob db cf S) (M : CtrOk_c blk n ob db cf S) (MR : ∀ t, RndOk blk n (S t)) (hO : Sort.SWO (ltc cf)) (hn : n ≤ 4096) (tk : Nat) (d : Array Int) (w : World) (htk : 220000000 * (n - 0) + 110000000 ≤ tk) (h : S tk d w) :
    Calls Yba.prog 15 #[.slice (some ⟨blk, 0, none⟩) n cap, cmpV ob db] w fun e w' => PdqS_c (ltc cf) (S (tk - (220000000 * (n - 0) + 110000000))) d 0 n e w' := by
  have hc := hid_mk (pdq_c (cap := cap) E C M MR hO hn (n + 1) tk 0 n (Lib.bitLen n) d w htk (by omega) (bitLen_small n hn) h (Nat.zero_le _) (Nat.le_refl _) (Or.inl rfl))
  have hl := hid_mk (len_y n hn w)
  clear E C M MR h htk
  have wr : IntKind.u64.wrap (n : Int) = n := by simp [IntKind.wrap, IntKind.bits, IntKind.signed]; omega
  generalize Lib.bitLen n = L at *
  go_enter Yba.func15, Yba.ntmps15
  go_wp2_with (first | (go_at_call 19; refine hl.out.mono ?_; rintro e w' ⟨rfl, rfl⟩) | (go_at_call 23; refine hc.out.mono ?_; rintro e w' ⟨d', rfl, hp, hs, S2⟩))
  go_end0
  exact ⟨d', rfl, hp, hs, S2⟩

set_option maxRecDepth 100000 in
set_option maxHeartbeats 2000000 in
theorem ins_nil_c (ob db : Nat) (w : World) : Calls Yba.prog 35 #[.slice none 0 0, .int .i64 0, .int .i64 0, cmpV ob db] w fun e w' => e = .returned (.tuple #[]) ∧ w' = w := by
  go_enter Yba.func35, Yba.ntmps35
  go_wp2_with fail
  go_loopg [8] 1 (fun g1 vi wr => vi = .int .i64 1 ∧ wr = w)
  case atStart => exact ⟨rfl, rfl⟩
  case round =>
    obtain ⟨rfl, rfl⟩ := hrel
    go_wp2_with fail
    go_end0
    exact ⟨rfl, rfl⟩

set_option maxRecDepth 100000 in
set_option maxHeartbeats 2000000 in
theorem pdq_nil_c (ob db : Nat) (w : World) : Calls Yba.prog 23 #[.slice none 0 0, .int .i64 0, .int .i64 0, .int .i64 0, cmpV ob db] w fun e w' => e = .returned (.tuple #[]) ∧ w' = w := by
  have hi := hid_mk (ins_nil_c ob db w)
  go_enter Yba.func23, Yba.ntmps23
  go_wp2_with fail
  go_loopg [1, 2] 1 (fun g1 vi vj wr => vi = .int .i64 0 ∧ vj = .int .i64 0 ∧ wr = w)
  case atStart => exact ⟨rfl, rfl, rfl⟩
  case round =>
    obtain ⟨rfl, rfl, rfl⟩ := hrel
    go_wp2_with (first | (go_at_call 35; refine hi.out.mono ?_; rintro e w' ⟨rfl, rfl⟩))
    (try simp only [Exit.inBlock, Exit.then]); refine bodyPost_ret (results_none rfl _ _ _) rfl ?_
    exact ⟨rfl, rfl⟩

set_option maxRecDepth 100000 in
set_option maxHeartbeats 2000000 in
theorem sortF_nil_c (ob db : Nat) (w : World) : Calls Yba.prog 15 #[.slice none 0 0, cmpV ob db] w fun e w' => e = .returned (.tuple #[]) ∧ w' = w := by
  have hc := hid_mk (pdq_nil_c ob db w)
  have hl : Calls Yba.prog 19 #[.int .u64 0] w fun e w' => e = .returned (.int .i64 0) ∧ w' = w := len_y 0 (by omega) w
  go_enter Yba.func15, Yba.ntmps15
  go_wp2_with (first | (go_at_call 19; refine hl.mono ?_; rintro e w' ⟨rfl, rfl⟩) | (go_at_call 23; refine hc.out.mono ?_; rintro e w' ⟨rfl, rfl⟩))
  go_end0
  exact ⟨rfl, rfl⟩

end Go.Proofs.Ybulkdkxi.lawS5598AWhole

import Derived.Test.YbulkdkveCBase
import Derived.Test.YbulkdkveCCopy
import Derived.Lib.Overlaps
import Derived.Laws.Externs
namespace Go.Proofs.Ybulkdkve.lawS5594CWhole
open Go.RowKit Go.Deep
set_option linter.unusedVariables false
set_option linter.unusedSimpArgs false

set_option maxRecDepth 100000 in
set_option maxHeartbeats 2000000 in
/-- slices.Insert at the end of a slice that is nil. -/
theorem insertL_nil (gv base : Nat) (x : Lk) (w : World) (hbase : base ≤ w.heap.size) (hv : w.heap[gv]? = some (.cells (encL x).toArray 90 (0, 0))) :
    Calls Yba.prog 8 #[.slice none 0 0, .int .i64 0, .slice (some ⟨gv, 0, none⟩) 1 1] w fun e w' => ∃ g cap, e = .returned (.slice (some ⟨g, 0, none⟩) 1 cap) ∧ w'.ownsRow base 90 3 (.slice (some ⟨g, 0, none⟩) 1 cap) 1 (flat encL [x]) ∧ Chg [] w w' ∧ w.heap.size ≤ g := by
  obtain ⟨i0, hi, hz0, hz1, hz2⟩ := info_parts info90
  have h0 := World.ownsRow_nil w base 90 3
  have hc := World.news_of_block hv
  go_enter Yba.func8, Yba.ntmps8
  go_wp2_with (at_builtin; refine wpList_append_lies _ rfl (.tmp 23) (.tmp 24) 77 rfl base 90 i0 _ 3 24 Yba.underlying77 hi hz0 hz1 hz2 rfl (by decide) _ 0 [] rfl h0 ⟨gv, 0, none⟩ 1 1 (encL x) rfl rfl hc (encL_one x) (by decide) (by unfold maxLen; omega) (by omega) hbase _ rfl ?_)
  intro g cap w1 hown hgrow hat hlt
  try simp only [Nat.zero_add, List.nil_append] at hown
  go_wp2_with fail
  go_ret
  refine ⟨_, _, rfl, by rw [flat_one]; exact hown, (Chg.refl [] w).grown hgrow (by intro k hk; simp [Value.ownBlock] at hk), ?_⟩
  rcases hat with hat | hat
  · simp [Value.ownBlock] at hat
  · omega

set_option maxRecDepth 100000 in
set_option maxHeartbeats 2000000 in
/-- .. at the end of one that is not. -/
theorem insertL_end (g0 n c0 gv base : Nat) (xs : List Lk) (x : Lk) (w : World) (hlen : xs.length = n) (hb : n ≤ 100000) (hbase : base ≤ w.heap.size)
    (hown : w.ownsRow base 90 3 (.slice (some ⟨g0, 0, none⟩) n c0) n (flat encL xs)) (hv : w.heap[gv]? = some (.cells (encL x).toArray 90 (0, 0))) :
    Calls Yba.prog 8 #[.slice (some ⟨g0, 0, none⟩) n c0, .int .i64 n, .slice (some ⟨gv, 0, none⟩) 1 1] w fun e w' => ∃ g cap, e = .returned (.slice (some ⟨g, 0, none⟩) (n + 1) cap) ∧ w'.ownsRow base 90 3 (.slice (some ⟨g, 0, none⟩) (n + 1) cap) (n + 1) (flat encL (xs ++ [x])) ∧ Chg [g0] w w' ∧ (g = g0 ∨ w.heap.size ≤ g) := by
  obtain ⟨i0, hi, hz0, hz1, hz2⟩ := info_parts info90
  have hc := World.news_of_block hv
  have hcap : n ≤ c0 ∧ c0 ≤ 9223372036854775807 := by
    rcases hown.2 with ⟨h, _⟩ | ⟨_, _, _, h, _, _, h1, h2, _⟩
    · cases h
    · injection h with h3 h4 h5
      subst h5
      exact ⟨h1, h2⟩
  obtain ⟨hc1, hc2⟩ := hcap
  have hnn : ((n : Int) == (n : Int)) = true := by simp
  go_enter Yba.func8, Yba.ntmps8
  go_wp2_with (at_builtin; refine wpList_append_lies _ rfl (.tmp 23) (.tmp 24) 77 rfl base 90 i0 _ 3 24 Yba.underlying77 hi hz0 hz1 hz2 rfl (by decide) _ n _ rfl hown ⟨gv, 0, none⟩ 1 1 (encL x) rfl rfl hc (encL_one x) (by decide) (by unfold maxLen; omega) (by omega) hbase _ rfl ?_)
  all_goals
    intro g cap w1 hown1 hgrow hat hlt
    go_wp2_with fail
    go_ret
    refine ⟨_, _, rfl, by rw [flat_append, flat_one]; exact hown1, (Chg.refl [g0] w).grown hgrow (by intro k hk; simp [Value.ownBlock] at hk; simp [hk]), ?_⟩
    rcases hat with hat | hat
    · simp [Value.ownBlock] at hat; exact .inl hat.symm
    · exact .inr (by omega)


set_option maxRecDepth 100000 in
set_option maxHeartbeats 2000000 in
/-- slices.Insert at the end of a slice that is nil. -/
theorem insertH_nil (gv base : Nat) (x : Hd) (w : World) (hbase : base ≤ w.heap.size) (hv : w.heap[gv]? = some (.cells (encH x).toArray 88 (0, 0))) :
    Calls Yba.prog 9 #[.slice none 0 0, .int .i64 0, .slice (some ⟨gv, 0, none⟩) 1 1] w fun e w' => ∃ g cap, e = .returned (.slice (some ⟨g, 0, none⟩) 1 cap) ∧ w'.ownsRow base 88 4 (.slice (some ⟨g, 0, none⟩) 1 cap) 1 (flat encH [x]) ∧ Chg [] w w' ∧ w.heap.size ≤ g := by
  obtain ⟨i0, hi, hz0, hz1, hz2⟩ := info_parts info88
  have h0 := World.ownsRow_nil w base 88 4
  have hc := World.news_of_block hv
  go_enter Yba.func9, Yba.ntmps9
  go_wp2_with (at_builtin; refine wpList_append_lies _ rfl (.tmp 23) (.tmp 24) 81 rfl base 88 i0 _ 4 24 Yba.underlying81 hi hz0 hz1 hz2 rfl (by decide) _ 0 [] rfl h0 ⟨gv, 0, none⟩ 1 1 (encH x) rfl rfl hc (encH_one x) (by decide) (by unfold maxLen; omega) (by omega) hbase _ rfl ?_)
  intro g cap w1 hown hgrow hat hlt
  try simp only [Nat.zero_add, List.nil_append] at hown
  go_wp2_with fail
  go_ret
  refine ⟨_, _, rfl, by rw [flat_one]; exact hown, (Chg.refl [] w).grown hgrow (by intro k hk; simp [Value.ownBlock] at hk), ?_⟩
  rcases hat with hat | hat
  · simp [Value.ownBlock] at hat
  · omega

set_option maxRecDepth 100000 in
set_option maxHeartbeats 2000000 in
/-- .. at the end of one that is not. -/
theorem insertH_end (g0 n c0 gv base : Nat) (xs : List Hd) (x : Hd) (w : World) (hlen : xs.length = n) (hb : n ≤ 100000) (hbase : base ≤ w.heap.size)
    (hown : w.ownsRow base 88 4 (.slice (some ⟨g0, 0, none⟩) n c0) n (flat encH xs)) (hv : w.heap[gv]? = some (.cells (encH x).toArray 88 (0, 0))) :
    Calls Yba.prog 9 #[.slice (some ⟨g0, 0, none⟩) n c0, .int .i64 n, .slice (some ⟨gv, 0, none⟩) 1 1] w fun e w' => ∃ g cap, e = .returned (.slice (some ⟨g, 0, none⟩) (n + 1) cap) ∧ w'.ownsRow base 88 4 (.slice (some ⟨g, 0, none⟩) (n + 1) cap) (n + 1) (flat encH (xs ++ [x])) ∧ Chg [g0] w w' ∧ (g = g0 ∨ w.heap.size ≤ g) := by
  obtain ⟨i0, hi, hz0, hz1, hz2⟩ := info_parts info88
  have hc := World.news_of_block hv
  have hcap : n ≤ c0 ∧ c0 ≤ 9223372036854775807 := by
    rcases hown.2 with ⟨h, _⟩ | ⟨_, _, _, h, _, _, h1, h2, _⟩
    · cases h
    · injection h with h3 h4 h5
      subst h5
      exact ⟨h1, h2⟩
  obtain ⟨hc1, hc2⟩ := hcap
  have hnn : ((n : Int) == (n : Int)) = true := by simp
  go_enter Yba.func9, Yba.ntmps9
  go_wp2_with (at_builtin; refine wpList_append_lies _ rfl (.tmp 23) (.tmp 24) 81 rfl base 88 i0 _ 4 24 Yba.underlying81 hi hz0 hz1 hz2 rfl (by decide) _ n _ rfl hown ⟨gv, 0, none⟩ 1 1 (encH x) rfl rfl hc (encH_one x) (by decide) (by unfold maxLen; omega) (by omega) hbase _ rfl ?_)
  all_goals
    intro g cap w1 hown1 hgrow hat hlt
    go_wp2_with fail
    go_ret
    refine ⟨_, _, rfl, by rw [flat_append, flat_one]; exact hown1, (Chg.refl [g0] w).grown hgrow (by intro k hk; simp [Value.ownBlock] at hk; simp [hk]), ?_⟩
    rcases hat with hat | hat
    · simp [Value.ownBlock] at hat; exact .inl hat.symm
    · exact .inr (by omega)


end Go.Proofs.Ybulkdkve.lawS5594CWhole

import Derived.Test.YbulkdkveCInsB
namespace Go.Proofs.Ybulkdkve.lawS5594CWhole
open Go.RowKit Go.Deep
set_option linter.unusedVariables false
set_option linter.unusedSimpArgs false

theorem overlapsL (g0 gv o : Nat) (w : World) (cur cv : Array Value) (hne : gv ≠ g0) (hg : w.heap[g0]? = some (.cells cur 90 (0, 0))) (hv : w.heap[gv]? = some (.cells cv 90 (0, 0))) (hk : cur.size ≠ 0) (lb cb : Nat) :
    (callFunc 15 #[.slice (some ⟨gv, 0, none⟩) 1 1, .slice (some ⟨g0, o, none⟩) lb cb]).run Yba.prog w = .ok (.value (.bool false)) w := by
  obtain ⟨i0, hi, hz0, hz1, hz2⟩ := info_parts info90
  have hz : ∀ w, (Go.sizeOf 90).run Yba.prog w = .ok 3 w := fun w => by simp [sizeOf, typeInfo, hi, hz1]
  rw [run_callFunc_extern Yba.func15 (by kernel_rfl) (by kernel_rfl) (by kernel_rfl) (e := Extern.SlicesOverlaps.overlaps #[77, 77] #[4]) (by kernel_rfl),
    Lib.run_overlaps_apart w 77 4 90 Yba.underlying77 3 hz ⟨gv, 0, none⟩ ⟨g0, o, none⟩ 1 1 lb cb hne 90 90 cv.size cur.size (by simp [World.shape?, hv]) (by simp [World.shape?, hg]) hk (by simp [World.frozen?, hv]) (by simp [World.frozen?, hv])]
  rfl

set_option maxRecDepth 100000 in
set_option maxHeartbeats 2000000 in
/-- .. in the middle, in place. -/
theorem insertL_shift (g0 n i c gv base : Nat) (xs : List Lk) (x : Lk) (w : World) (hlen : xs.length = n) (hin : i < n) (hc : n < c) (hb : n ≤ 100000) (hne : gv ≠ g0)
    (hown : w.ownsRow base 90 3 (.slice (some ⟨g0, 0, none⟩) n c) n (flat encL xs)) (hv : w.heap[gv]? = some (.cells (encL x).toArray 90 (0, 0))) :
    Calls Yba.prog 8 #[.slice (some ⟨g0, 0, none⟩) n c, .int .i64 i, .slice (some ⟨gv, 0, none⟩) 1 1] w fun e w' => ∃ g cap, e = .returned (.slice (some ⟨g, 0, none⟩) (n + 1) cap) ∧ w'.ownsRow base 90 3 (.slice (some ⟨g, 0, none⟩) (n + 1) cap) (n + 1) (flat encL (xs.take i ++ x :: xs.drop i)) ∧ Chg [g0] w w' ∧ (g = g0 ∨ w.heap.size ≤ g) := by
  obtain ⟨i0, hi, hz0, hz1, hz2⟩ := info_parts info90
  have hsz : (Yba.prog.info? 90).map (·.size) = some 3 := by rw [hi]; simp [hz1]
  obtain ⟨cur, hbg, hg, hc63, hcs, htake⟩ : ∃ cur : Array Value, base ≤ g0 ∧ w.heap[g0]? = some (.cells cur 90 (0, 0)) ∧ c ≤ 9223372036854775807 ∧ cur.size = c * 3 ∧ cur.toList.take (n * 3) = flat encL xs := by
    rcases hown.2 with ⟨h, _⟩ | ⟨g', c', cur, h, hbg, hg, hnc, hcm, hcs, ht⟩
    · cases h
    · injection h with h1 h2 h3
      injection h1 with h1
      injection h1 with h1 _ _
      subst h1
      subst h3
      exact ⟨cur, hbg, hg, hcm, hcs, ht⟩
  have hA : (flat encL (xs.take i)).length = i * 3 := by rw [flat_length encL_len, List.length_take]; congr 1; omega
  have hD : (flat encL (xs.drop i)).length = (n - i) * 3 := by rw [flat_length encL_len, List.length_drop, hlen]
  have hpart : cur.toList = flat encL (xs.take i) ++ flat encL (xs.drop i) ++ cur.toList.drop (n * 3) := by
    rw [← flat_append, List.take_append_drop, ← htake, List.take_append_drop]
  have hclen : cur.toList.length = c * 3 := by simpa using hcs
  have hcmul : (n + 1) * 3 ≤ c * 3 := Nat.mul_le_mul_right _ (by omega)
  have hov := overlapsL g0 gv ((i + 1) * 3) w cur _ hne hg hv (by omega)
  -- copy(s[i+1:], s[i:])
  obtain ⟨W2, hr2, hrow2, hch2⟩ : ∃ W2, (∀ ty dc sc, (Builtin.copy_ #[77, 77] ty #[.slice (some ⟨g0, (i + 1) * 3, none⟩) (n - i) dc, .slice (some ⟨g0, i * 3, none⟩) (n + 1 - i) sc]).run Yba.prog w.drew = .ok (goInt ((n - i : Nat) : Int)) W2) ∧
      W2.heap[g0]? = some (.cells (cur.toList.take (i * 3 + 3) ++ flat encL (xs.drop i) ++ cur.toList.drop (i * 3 + 3 + (n - i) * 3)).toArray 90 (0, 0)) ∧ Chg [g0] w W2 := by
    refine ⟨_, fun ty dc sc => run_copy_cells_s w.drew 77 77 ty 90 3 g0 ((i + 1) * 3) (n - i) dc ⟨g0, i * 3, none⟩ (n + 1 - i) sc cur 90 (n - i) (flat encL (xs.drop i)) Yba.underlying77 hsz hg (by simp only [Nat.min_def]; split <;> omega) hD ?_ ?_ (flatL_one _), ?_, ?_⟩
    · intro j v hj
      rw [← flat_drop encL_len, List.getElem?_drop] at hj
      have := hown.cells (g := g0) rfl _ v hj
      rw [Addr.add_lit] at this ⊢
      simpa using this
    · rw [hD]
      omega
    · refine (setRow_heap w.drew g0 _ _ 90 _ hg).trans ?_
      rw [hD, show (i + 1) * 3 = i * 3 + 3 by omega]
    · exact ((Chg.refl [g0] w).drew).step (L' := [g0]) ⟨rfl, rfl, rfl, by simp [World.setRow], fun k hk hn => setRow_other w.drew g0 k _ (by simpa using hn)⟩ (by intro y hy hlt; exact hy)
  have hv2 : W2.heap[gv]? = some (.cells (encL x).toArray 90 (0, 0)) := (hch2.block gv (by
    rcases Nat.lt_or_ge gv w.heap.size with h | h
    · exact h
    · rw [Array.getElem?_eq_none h] at hv; cases hv) (by simpa using hne)).trans hv
  -- copy(s[i:], v)
  obtain ⟨W3, hr3, hrow3, hch3⟩ : ∃ W3, (∀ ty dc, (Builtin.copy_ #[77, 77] ty #[.slice (some ⟨g0, i * 3, none⟩) (n + 1 - i) dc, .slice (some ⟨gv, 0, none⟩) 1 1]).run Yba.prog W2 = .ok (goInt 1) W3) ∧
      W3.heap[g0]? = some (.cells (flat encL (xs.take i) ++ encL x ++ flat encL (xs.drop i) ++ (cur.toList.drop (n * 3)).drop 3).toArray 90 (0, 0)) ∧ Chg [g0] w W3 := by
    refine ⟨_, fun ty dc => run_copy_cells_s W2 77 77 ty 90 3 g0 (i * 3) (n + 1 - i) dc ⟨gv, 0, none⟩ 1 1 _ 90 1 (encL x) Yba.underlying77 hsz hrow2 (by simp only [Nat.min_def]; split <;> omega) rfl (World.news_of_block hv2) ?_ (encL_one x), ?_, ?_⟩
    · simp only [List.size_toArray, List.length_append, List.length_take, List.length_drop, hclen, hD, encL_len]
      omega
    · refine (setRow_heap W2 g0 _ _ 90 _ hrow2).trans ?_
      have := shift_list cur.toList (flat encL (xs.take i)) (encL x) (flat encL (xs.drop i)) (cur.toList.drop (n * 3)) (i * 3) 3 ((n - i) * 3) hpart hA (encL_len x) hD (by rw [List.length_drop, hclen]; omega)
      simp only at this
      simp only [List.toList_toArray, encL_len]
      rw [this]
    · exact hch2.step (L' := [g0]) ⟨rfl, rfl, rfl, by simp [World.setRow], fun k hk hn => setRow_other W2 g0 k _ (by simpa using hn)⟩ (by intro y hy hlt; exact hy)
  have hfin : W3.ownsRow base 90 3 (.slice (some ⟨g0, 0, none⟩) (n + 1) c) (n + 1) (flat encL (xs.take i ++ x :: xs.drop i)) := by
    have hl : (flat encL (xs.take i ++ x :: xs.drop i)).length = (n + 1) * 3 := by
      rw [flat_length encL_len]; congr 1; simp; omega
    have he : flat encL (xs.take i ++ x :: xs.drop i) = flat encL (xs.take i) ++ encL x ++ flat encL (xs.drop i) := by rw [flat_append, flat_cons, List.append_assoc]
    refine ⟨hl, .inr ⟨g0, c, _, rfl, hbg, hrow3, by omega, hc63, ?_, ?_⟩⟩
    · rw [← he]
      simp only [List.size_toArray, List.length_append, hl, List.length_drop, hclen]
      omega
    · rw [← he]
      simp only [List.toList_toArray]
      rw [← hl]
      exact List.take_left
  have HF : Hid (W3.ownsRow base 90 3 (.slice (some ⟨g0, 0, none⟩) (n + 1) c) (n + 1) (flat encL (xs.take i ++ x :: xs.drop i)) ∧ Chg [g0] w W3) := ⟨hfin, hch3⟩
  have hni : ((i : Int) == (n : Int)) = false := by simp; omega
  have hci : ¬ c = i := by omega
  have hci1 : ¬ c = i + 1 := by omega
  have hti : ((i : Int) + 1).toNat = i + 1 := by omega
  have htn : ((n : Int) + 1).toNat = n + 1 := by omega
  have hwi : IntKind.i64.wrap ((i : Int) + 1) = (i : Int) + 1 := by rw [IntKind.wrap_i64]; omega
  have hb1 : (0 : Int) ≤ (i : Int) + 1 := by omega
  have hb2 : (i : Int) + 1 ≤ (n : Int) + 1 := by omega
  have hb3 : (i : Int) ≤ (n : Int) + 1 := by omega
  clear hrow2 hrow3 hch2 hch3 hfin hA hD hv2 hv hown hpart hclen hcmul htake hcs hg hbg hne cur
  go_enter Yba.func8, Yba.ntmps8
  go_wp2_with (simp only [hov])
  go_region_law (refine step_copy_known rfl (.tmp 73) (.tmp 76) 77 77 rfl (.slice (some ⟨g0, (i + 1) * 3, none⟩) (n - i) (c - (i + 1))) (.slice (some ⟨g0, i * 3, none⟩) (n + 1 - i) (c - i)) (by simp [Act.eval, Act.put]) (by simp [Act.eval, Act.put]) (hr2 _ _ _) ?_)
  go_wp2_with (at_builtin; refine wpList_copy_known _ rfl (.tmp 80) (.tmp 81) 77 77 rfl _ _ rfl rfl (hr3 _ _) ?_)
  go_ret
  exact ⟨_, _, rfl, HF.out.1, HF.out.2, .inl rfl⟩

/-- slices.Insert of one element into a slice of the call's own that is not nil, at a place within it or at its end. -/
theorem insertL (g0 n i c gv base : Nat) (xs : List Lk) (x : Lk) (w : World) (hlen : xs.length = n) (hin : i ≤ n) (hb : n ≤ 100000) (hne : gv ≠ g0) (hbase : base ≤ w.heap.size)
    (hown : w.ownsRow base 90 3 (.slice (some ⟨g0, 0, none⟩) n c) n (flat encL xs)) (hv : w.heap[gv]? = some (.cells (encL x).toArray 90 (0, 0))) :
    Calls Yba.prog 8 #[.slice (some ⟨g0, 0, none⟩) n c, .int .i64 i, .slice (some ⟨gv, 0, none⟩) 1 1] w fun e w' => ∃ g cap, e = .returned (.slice (some ⟨g, 0, none⟩) (n + 1) cap) ∧ w'.ownsRow base 90 3 (.slice (some ⟨g, 0, none⟩) (n + 1) cap) (n + 1) (flat encL (xs.take i ++ x :: xs.drop i)) ∧ Chg [g0] w w' ∧ (g = g0 ∨ w.heap.size ≤ g) := by
  by_cases e : i = n
  · subst e
    rw [List.take_of_length_le (by omega), List.drop_of_length_le (by omega)]
    exact insertL_end g0 i c gv base xs x w hlen hb hbase hown hv
  · have hc : n ≤ c := by
      rcases hown.2 with ⟨h, _⟩ | ⟨g', c', cur, h, hbg, hg, hnc, hcm, hcs, ht⟩
      · cases h
      · injection h with h1 h2 h3
        omega
    by_cases e2 : c = n
    · subst e2
      exact insertL_grow g0 c i gv base xs x w hlen (by omega) hb hbase hown hv
    · exact insertL_shift g0 n i c gv base xs x w hlen (by omega) (by omega) hb hne hown hv


theorem overlapsH (g0 gv o : Nat) (w : World) (cur cv : Array Value) (hne : gv ≠ g0) (hg : w.heap[g0]? = some (.cells cur 88 (0, 0))) (hv : w.heap[gv]? = some (.cells cv 88 (0, 0))) (hk : cur.size ≠ 0) (lb cb : Nat) :
    (callFunc 17 #[.slice (some ⟨gv, 0, none⟩) 1 1, .slice (some ⟨g0, o, none⟩) lb cb]).run Yba.prog w = .ok (.value (.bool false)) w := by
  obtain ⟨i0, hi, hz0, hz1, hz2⟩ := info_parts info88
  have hz : ∀ w, (Go.sizeOf 88).run Yba.prog w = .ok 4 w := fun w => by simp [sizeOf, typeInfo, hi, hz1]
  rw [run_callFunc_extern Yba.func17 (by kernel_rfl) (by kernel_rfl) (by kernel_rfl) (e := Extern.SlicesOverlaps.overlaps #[81, 81] #[4]) (by kernel_rfl),
    Lib.run_overlaps_apart w 81 4 88 Yba.underlying81 4 hz ⟨gv, 0, none⟩ ⟨g0, o, none⟩ 1 1 lb cb hne 88 88 cv.size cur.size (by simp [World.shape?, hv]) (by simp [World.shape?, hg]) hk (by simp [World.frozen?, hv]) (by simp [World.frozen?, hv])]
  rfl

set_option maxRecDepth 100000 in
set_option maxHeartbeats 2000000 in
/-- .. in the middle, in place. -/
theorem insertH_shift (g0 n i c gv base : Nat) (xs : List Hd) (x : Hd) (w : World) (hlen : xs.length = n) (hin : i < n) (hc : n < c) (hb : n ≤ 100000) (hne : gv ≠ g0)
    (hown : w.ownsRow base 88 4 (.slice (some ⟨g0, 0, none⟩) n c) n (flat encH xs)) (hv : w.heap[gv]? = some (.cells (encH x).toArray 88 (0, 0))) :
    Calls Yba.prog 9 #[.slice (some ⟨g0, 0, none⟩) n c, .int .i64 i, .slice (some ⟨gv, 0, none⟩) 1 1] w fun e w' => ∃ g cap, e = .returned (.slice (some ⟨g, 0, none⟩) (n + 1) cap) ∧ w'.ownsRow base 88 4 (.slice (some ⟨g, 0, none⟩) (n + 1) cap) (n + 1) (flat encH (xs.take i ++ x :: xs.drop i)) ∧ Chg [g0] w w' ∧ (g = g0 ∨ w.heap.size ≤ g) := by
  obtain ⟨i0, hi, hz0, hz1, hz2⟩ := info_parts info88
  have hsz : (Yba.prog.info? 88).map (·.size) = some 4 := by rw [hi]; simp [hz1]
  obtain ⟨cur, hbg, hg, hc63, hcs, htake⟩ : ∃ cur : Array Value, base ≤ g0 ∧ w.heap[g0]? = some (.cells cur 88 (0, 0)) ∧ c ≤ 9223372036854775807 ∧ cur.size = c * 4 ∧ cur.toList.take (n * 4) = flat encH xs := by
    rcases hown.2 with ⟨h, _⟩ | ⟨g', c', cur, h, hbg, hg, hnc, hcm, hcs, ht⟩
    · cases h
    · injection h with h1 h2 h3
      injection h1 with h1
      injection h1 with h1 _ _
      subst h1
      subst h3
      exact ⟨cur, hbg, hg, hcm, hcs, ht⟩
  have hA : (flat encH (xs.take i)).length = i * 4 := by rw [flat_length encH_len, List.length_take]; congr 1; omega
  have hD : (flat encH (xs.drop i)).length = (n - i) * 4 := by rw [flat_length encH_len, List.length_drop, hlen]
  have hpart : cur.toList = flat encH (xs.take i) ++ flat encH (xs.drop i) ++ cur.toList.drop (n * 4) := by
    rw [← flat_append, List.take_append_drop, ← htake, List.take_append_drop]
  have hclen : cur.toList.length = c * 4 := by simpa using hcs
  have hcmul : (n + 1) * 4 ≤ c * 4 := Nat.mul_le_mul_right _ (by omega)
  have hov := overlapsH g0 gv ((i + 1) * 4) w cur _ hne hg hv (by omega)
  -- copy(s[i+1:], s[i:])
  obtain ⟨W2, hr2, hrow2, hch2⟩ : ∃ W2, (∀ ty dc sc, (Builtin.copy_ #[81, 81] ty #[.slice (some ⟨g0, (i + 1) * 4, none⟩) (n - i) dc, .slice (some ⟨g0, i * 4, none⟩) (n + 1 - i) sc]).run Yba.prog w.drew = .ok (goInt ((n - i : Nat) : Int)) W2) ∧
      W2.heap[g0]? = some (.cells (cur.toList.take (i * 4 + 4) ++ flat encH (xs.drop i) ++ cur.toList.drop (i * 4 + 4 + (n - i) * 4)).toArray 88 (0, 0)) ∧ Chg [g0] w W2 := by
    refine ⟨_, fun ty dc sc => run_copy_cells_s w.drew 81 81 ty 88 4 g0 ((i + 1) * 4) (n - i) dc ⟨g0, i * 4, none⟩ (n + 1 - i) sc cur 88 (n - i) (flat encH (xs.drop i)) Yba.underlying81 hsz hg (by simp only [Nat.min_def]; split <;> omega) hD ?_ ?_ (flatH_one _), ?_, ?_⟩
    · intro j v hj
      rw [← flat_drop encH_len, List.getElem?_drop] at hj
      have := hown.cells (g := g0) rfl _ v hj
      rw [Addr.add_lit] at this ⊢
      simpa using this
    · rw [hD]
      omega
    · refine (setRow_heap w.drew g0 _ _ 88 _ hg).trans ?_
      rw [hD, show (i + 1) * 4 = i * 4 + 4 by omega]
    · exact ((Chg.refl [g0] w).drew).step (L' := [g0]) ⟨rfl, rfl, rfl, by simp [World.setRow], fun k hk hn => setRow_other w.drew g0 k _ (by simpa using hn)⟩ (by intro y hy hlt; exact hy)
  have hv2 : W2.heap[gv]? = some (.cells (encH x).toArray 88 (0, 0)) := (hch2.block gv (by
    rcases Nat.lt_or_ge gv w.heap.size with h | h
    · exact h
    · rw [Array.getElem?_eq_none h] at hv; cases hv) (by simpa using hne)).trans hv
  -- copy(s[i:], v)
  obtain ⟨W3, hr3, hrow3, hch3⟩ : ∃ W3, (∀ ty dc, (Builtin.copy_ #[81, 81] ty #[.slice (some ⟨g0, i * 4, none⟩) (n + 1 - i) dc, .slice (some ⟨gv, 0, none⟩) 1 1]).run Yba.prog W2 = .ok (goInt 1) W3) ∧
      W3.heap[g0]? = some (.cells (flat encH (xs.take i) ++ encH x ++ flat encH (xs.drop i) ++ (cur.toList.drop (n * 4)).drop 4).toArray 88 (0, 0)) ∧ Chg [g0] w W3 := by
    refine ⟨_, fun ty dc => run_copy_cells_s W2 81 81 ty 88 4 g0 (i * 4) (n + 1 - i) dc ⟨gv, 0, none⟩ 1 1 _ 88 1 (encH x) Yba.underlying81 hsz hrow2 (by simp only [Nat.min_def]; split <;> omega) rfl (World.news_of_block hv2) ?_ (encH_one x), ?_, ?_⟩
    · simp only [List.size_toArray, List.length_append, List.length_take, List.length_drop, hclen, hD, encH_len]
      omega
    · refine (setRow_heap W2 g0 _ _ 88 _ hrow2).trans ?_
      have := shift_list cur.toList (flat encH (xs.take i)) (encH x) (flat encH (xs.drop i)) (cur.toList.drop (n * 4)) (i * 4) 4 ((n - i) * 4) hpart hA (encH_len x) hD (by rw [List.length_drop, hclen]; omega)
      simp only at this
      simp only [List.toList_toArray, encH_len]
      rw [this]
    · exact hch2.step (L' := [g0]) ⟨rfl, rfl, rfl, by simp [World.setRow], fun k hk hn => setRow_other W2 g0 k _ (by simpa using hn)⟩ (by intro y hy hlt; exact hy)
  have hfin : W3.ownsRow base 88 4 (.slice (some ⟨g0, 0, none⟩) (n + 1) c) (n + 1) (flat encH (xs.take i ++ x :: xs.drop i)) := by
    have hl : (flat encH (xs.take i ++ x :: xs.drop i)).length = (n + 1) * 4 := by
      rw [flat_length encH_len]; congr 1; simp; omega
    have he : flat encH (xs.take i ++ x :: xs.drop i) = flat encH (xs.take i) ++ encH x ++ flat encH (xs.drop i) := by rw [flat_append, flat_cons, List.append_assoc]
    refine ⟨hl, .inr ⟨g0, c, _, rfl, hbg, hrow3, by omega, hc63, ?_, ?_⟩⟩
    · rw [← he]
      simp only [List.size_toArray, List.length_append, hl, List.length_drop, hclen]
      omega
    · rw [← he]
      simp only [List.toList_toArray]
      rw [← hl]
      exact List.take_left
  have HF : Hid (W3.ownsRow base 88 4 (.slice (some ⟨g0, 0, none⟩) (n + 1) c) (n + 1) (flat encH (xs.take i ++ x :: xs.drop i)) ∧ Chg [g0] w W3) := ⟨hfin, hch3⟩
  have hni : ((i : Int) == (n : Int)) = false := by simp; omega
  have hci : ¬ c = i := by omega
  have hci1 : ¬ c = i + 1 := by omega
  have hti : ((i : Int) + 1).toNat = i + 1 := by omega
  have htn : ((n : Int) + 1).toNat = n + 1 := by omega
  have hwi : IntKind.i64.wrap ((i : Int) + 1) = (i : Int) + 1 := by rw [IntKind.wrap_i64]; omega
  have hb1 : (0 : Int) ≤ (i : Int) + 1 := by omega
  have hb2 : (i : Int) + 1 ≤ (n : Int) + 1 := by omega
  have hb3 : (i : Int) ≤ (n : Int) + 1 := by omega
  clear hrow2 hrow3 hch2 hch3 hfin hA hD hv2 hv hown hpart hclen hcmul htake hcs hg hbg hne cur
  go_enter Yba.func9, Yba.ntmps9
  go_wp2_with (simp only [hov])
  go_region_law (refine step_copy_known rfl (.tmp 73) (.tmp 76) 81 81 rfl (.slice (some ⟨g0, (i + 1) * 4, none⟩) (n - i) (c - (i + 1))) (.slice (some ⟨g0, i * 4, none⟩) (n + 1 - i) (c - i)) (by simp [Act.eval, Act.put]) (by simp [Act.eval, Act.put]) (hr2 _ _ _) ?_)
  go_wp2_with (at_builtin; refine wpList_copy_known _ rfl (.tmp 80) (.tmp 81) 81 81 rfl _ _ rfl rfl (hr3 _ _) ?_)
  go_ret
  exact ⟨_, _, rfl, HF.out.1, HF.out.2, .inl rfl⟩

/-- slices.Insert of one element into a slice of the call's own that is not nil, at a place within it or at its end. -/
theorem insertH (g0 n i c gv base : Nat) (xs : List Hd) (x : Hd) (w : World) (hlen : xs.length = n) (hin : i ≤ n) (hb : n ≤ 100000) (hne : gv ≠ g0) (hbase : base ≤ w.heap.size)
    (hown : w.ownsRow base 88 4 (.slice (some ⟨g0, 0, none⟩) n c) n (flat encH xs)) (hv : w.heap[gv]? = some (.cells (encH x).toArray 88 (0, 0))) :
    Calls Yba.prog 9 #[.slice (some ⟨g0, 0, none⟩) n c, .int .i64 i, .slice (some ⟨gv, 0, none⟩) 1 1] w fun e w' => ∃ g cap, e = .returned (.slice (some ⟨g, 0, none⟩) (n + 1) cap) ∧ w'.ownsRow base 88 4 (.slice (some ⟨g, 0, none⟩) (n + 1) cap) (n + 1) (flat encH (xs.take i ++ x :: xs.drop i)) ∧ Chg [g0] w w' ∧ (g = g0 ∨ w.heap.size ≤ g) := by
  by_cases e : i = n
  · subst e
    rw [List.take_of_length_le (by omega), List.drop_of_length_le (by omega)]
    exact insertH_end g0 i c gv base xs x w hlen hb hbase hown hv
  · have hc : n ≤ c := by
      rcases hown.2 with ⟨h, _⟩ | ⟨g', c', cur, h, hbg, hg, hnc, hcm, hcs, ht⟩
      · cases h
      · injection h with h1 h2 h3
        omega
    by_cases e2 : c = n
    · subst e2
      exact insertH_grow g0 c i gv base xs x w hlen (by omega) hb hbase hown hv
    · exact insertH_shift g0 n i c gv base xs x w hlen (by omega) (by omega) hb hne hown hv


end Go.Proofs.Ybulkdkve.lawS5594CWhole

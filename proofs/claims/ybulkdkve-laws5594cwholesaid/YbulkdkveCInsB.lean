import Derived.Test.YbulkdkveCInsA
namespace Go.Proofs.Ybulkdkve.lawS5594CWhole
open Go.RowKit Go.Deep
set_option linter.unusedVariables false
set_option linter.unusedSimpArgs false

/-- s[:i] with zeros behind it, in a new row. -/
theorem zerosL {g0 n i base : Nat} {xs : List Lk} {w : World} (hlen : xs.length = n) (hin : i < n) (hb : n ≤ 100000)
    (hown : w.ownsRow base 90 3 (.slice (some ⟨g0, 0, none⟩) n n) n (flat encL xs)) :
    ∃ W1 G O Z, (∀ ty, (Builtin.append_ #[77, 3] ty #[.slice (some ⟨g0, 0, none⟩) i n, .int .i64 ((n : Int) + 1 - (i : Int))]).run Yba.prog w = .ok (.slice (some ⟨w.heap.size, 0, none⟩) (n + 1) G) W1) ∧
      W1.heap[w.heap.size]? = some (.cells (flat encL (xs.take i) ++ O ++ Z).toArray 90 (0, 0)) ∧ O.length = 3 + (n - i) * 3 ∧ n + 1 ≤ G ∧ G ≤ 9223372036854775807 ∧ Z.length = (G - (n + 1)) * 3 ∧ Chg [] w W1 := by
  obtain ⟨i0, hi, hz0, hz1, hz2⟩ := info_parts info90
  have hcells := hown.cells (g := g0) rfl
  have hold : (Builtin.firstCells i0.size i (.slice (some ⟨g0, 0, none⟩) i n)).run Yba.prog w.drew = .ok (flat encL (xs.take i)).toArray w.drew := by
    rw [hz1]
    refine run_firstCells_some w.drew 3 i ⟨g0, 0, none⟩ i n (flat encL (xs.take i)) (by rw [flat_length encL_len, List.length_take]; omega) (fun j v hj => ?_)
    rw [← flat_take encL_len, List.getElem?_take] at hj
    split at hj
    · exact hcells j v hj
    · cases hj
  have hr := fun ty => Lib.run_append_grow_zeros w 77 3 ty 90 i0 _ .i64 .i64 Yba.underlying77 Yba.underlying3 hi hz0 (some ⟨g0, 0, none⟩) i n (flat encL (xs.take i)) hold (n + 1 - i) (by omega) (by omega) (by omega) (by omega) (by rw [hz2]; omega) (by rw [hz2]; exact growslice_fits (by omega) (by omega))
  rw [show i + (n + 1 - i) = n + 1 by omega, show ((n + 1 - i : Nat) : Int) = (n : Int) + 1 - (i : Int) by omega] at hr
  have hge := grownCap_ge w (n + 1) n 90
  have hle := grownCap_le_maxLen w (n + 1) n 90 (by unfold maxLen; omega)
  refine ⟨_, _, (Builtin.zeroCells (Value.cells (.agg #[.pointer none, .int .i64 0, .int .i64 0])) (n + 1 - i)).toList, (Builtin.zeroCells (Value.cells (.agg #[.pointer none, .int .i64 0, .int .i64 0])) (grownCap w (n + 1) n 90 - (n + 1))).toList, hr, ?_, ?_, hge, hle, ?_, ((Chg.refl [] w).drew.alloc _)⟩
  · refine (heap_alloc_new w.drew _).trans ?_
    generalize Builtin.zeroCells (Value.cells (.agg #[.pointer none, .int .i64 0, .int .i64 0])) (n + 1 - i) = A
    generalize Builtin.zeroCells (Value.cells (.agg #[.pointer none, .int .i64 0, .int .i64 0])) (grownCap w (n + 1) n 90 - (n + 1)) = B
    have : (flat encL (xs.take i) ++ A.toList ++ B.toList).toArray = (flat encL (xs.take i)).toArray ++ A ++ B := by
      apply Array.toList_inj.1
      simp
    rw [this]
  · rw [Array.length_toList, size_zeroCells]
    show (n + 1 - i) * 3 = _
    omega
  · rw [Array.length_toList, size_zeroCells]
    rfl

set_option maxRecDepth 100000 in
set_option maxHeartbeats 2000000 in
/-- .. in the middle, no room. -/
theorem insertL_grow (g0 n i gv base : Nat) (xs : List Lk) (x : Lk) (w : World) (hlen : xs.length = n) (hin : i < n) (hb : n ≤ 100000) (hbase : base ≤ w.heap.size)
    (hown : w.ownsRow base 90 3 (.slice (some ⟨g0, 0, none⟩) n n) n (flat encL xs)) (hv : w.heap[gv]? = some (.cells (encL x).toArray 90 (0, 0))) :
    Calls Yba.prog 8 #[.slice (some ⟨g0, 0, none⟩) n n, .int .i64 i, .slice (some ⟨gv, 0, none⟩) 1 1] w fun e w' => ∃ g cap, e = .returned (.slice (some ⟨g, 0, none⟩) (n + 1) cap) ∧ w'.ownsRow base 90 3 (.slice (some ⟨g, 0, none⟩) (n + 1) cap) (n + 1) (flat encL (xs.take i ++ x :: xs.drop i)) ∧ Chg [g0] w w' ∧ (g = g0 ∨ w.heap.size ≤ g) := by
  obtain ⟨i0, hi, hz0, hz1, hz2⟩ := info_parts info90
  have hsz : (Yba.prog.info? 90).map (·.size) = some 3 := by rw [hi]; simp [hz1]
  have hgv : gv < w.heap.size := by
    rcases Nat.lt_or_ge gv w.heap.size with h | h
    · exact h
    · rw [Array.getElem?_eq_none h] at hv; cases hv
  have hg0 : g0 < w.heap.size := (hown.lt g0 rfl).2
  obtain ⟨W1, G, O, Z, hr1, hrow1, hO, hG1, hG2, hZ, hch1⟩ := zerosL hlen hin hb hown
  obtain ⟨H, hH⟩ : ∃ H, w.heap.size = H := ⟨_, rfl⟩
  rw [hH] at hr1 hrow1 hgv hg0
  have hA : (flat encL (xs.take i)).length = i * 3 := by rw [flat_length encL_len, List.length_take]; congr 1; omega
  have hD : (flat encL (xs.drop i)).length = (n - i) * 3 := by rw [flat_length encL_len, List.length_drop, hlen]
  have hv1 : W1.heap[gv]? = some (.cells (encL x).toArray 90 (0, 0)) := (hch1.block gv (by omega) (by simp)).trans hv
  -- copy(s2[i:], v)
  obtain ⟨W2, hr2, hrow2, hch2⟩ : ∃ W2, (∀ ty dc, (Builtin.copy_ #[77, 77] ty #[.slice (some ⟨H, i * 3, none⟩) (n + 1 - i) dc, .slice (some ⟨gv, 0, none⟩) 1 1]).run Yba.prog W1 = .ok (goInt 1) W2) ∧
      W2.heap[H]? = some (.cells ((flat encL (xs.take i) ++ O ++ Z).take (i * 3) ++ encL x ++ (flat encL (xs.take i) ++ O ++ Z).drop (i * 3 + 3)).toArray 90 (0, 0)) ∧ Chg [] w W2 := by
    refine ⟨_, fun ty dc => run_copy_cells_s W1 77 77 ty 90 3 H (i * 3) (n + 1 - i) dc ⟨gv, 0, none⟩ 1 1 _ 90 1 (encL x) Yba.underlying77 hsz hrow1 (by simp only [Nat.min_def]; split <;> omega) rfl (World.news_of_block hv1) (by simp [hA, hO, encL_len]; omega) (encL_one x), ?_, ?_⟩
    · exact setRow_heap W1 H _ _ 90 _ hrow1
    · exact hch1.step (L' := [H]) ⟨rfl, rfl, rfl, by simp [World.setRow], fun k hk hn => setRow_other W1 H k _ (by simpa using hn)⟩ (by intro y hy hlt; simp at hy; omega)
  -- copy(s2[i+1:], s[i:])
  have hold2 : ∀ j v, (flat encL (xs.drop i))[j]? = some v → W2.cell? ((⟨g0, i * 3, none⟩ : Addr).add j) = some v := by
    intro j v hj
    rw [← flat_drop encL_len, List.getElem?_drop] at hj
    have hc := (hch2.own hown (by simp)).cells (g := g0) rfl _ v hj
    rw [Addr.add_lit] at hc ⊢
    simpa using hc
  obtain ⟨W3, hr3, hrow3, hch3⟩ : ∃ W3, (∀ ty dc sc, (Builtin.copy_ #[77, 77] ty #[.slice (some ⟨H, (i + 1) * 3, none⟩) (n - i) dc, .slice (some ⟨g0, i * 3, none⟩) (n - i) sc]).run Yba.prog W2.drew = .ok (goInt ((n - i : Nat) : Int)) W3) ∧
      W3.heap[H]? = some (.cells (flat encL (xs.take i) ++ encL x ++ flat encL (xs.drop i) ++ Z).toArray 90 (0, 0)) ∧ Chg [] w W3 := by
    refine ⟨_, fun ty dc sc => run_copy_cells_s W2.drew 77 77 ty 90 3 H ((i + 1) * 3) (n - i) dc ⟨g0, i * 3, none⟩ (n - i) sc _ 90 (n - i) (flat encL (xs.drop i)) Yba.underlying77 hsz hrow2 (by simp only [Nat.min_def]; split <;> omega) hD hold2 ?_ (flatL_one _), ?_, ?_⟩
    · simp [hA, hO, hZ, hD, encL_len]
      omega
    · refine (setRow_heap W2.drew H _ _ 90 _ hrow2).trans ?_
      have := fill_list (flat encL (xs.take i)) O (encL x) (flat encL (xs.drop i)) Z (i * 3) 3 ((n - i) * 3) hA hO (encL_len x) hD
      simp only at this
      rw [hD, show (i + 1) * 3 = i * 3 + 3 by omega]
      simp only [List.toList_toArray]
      rw [this]
    · exact (hch2.drew).step (L' := [H]) ⟨rfl, rfl, rfl, by simp [World.setRow], fun k hk hn => setRow_other W2.drew H k _ (by simpa using hn)⟩ (by intro y hy hlt; simp at hy; omega)
  have hfin : W3.ownsRow base 90 3 (.slice (some ⟨H, 0, none⟩) (n + 1) G) (n + 1) (flat encL (xs.take i ++ x :: xs.drop i)) := by
    have hl : (flat encL (xs.take i ++ x :: xs.drop i)).length = (n + 1) * 3 := by
      rw [flat_length encL_len]; congr 1; simp; omega
    have he : flat encL (xs.take i ++ x :: xs.drop i) = flat encL (xs.take i) ++ encL x ++ flat encL (xs.drop i) := by rw [flat_append, flat_cons, List.append_assoc]
    refine ⟨hl, .inr ⟨H, G, _, rfl, by omega, hrow3, hG1, hG2, ?_, ?_⟩⟩
    · rw [← he]
      simp only [List.size_toArray, List.length_append, hl, hZ]
      have := Nat.sub_add_cancel hG1
      rw [← Nat.add_mul]
      congr 1
      omega
    · rw [← he]
      simp only [List.toList_toArray]
      rw [← hl]
      exact List.take_left
  have HF : Hid (W3.ownsRow base 90 3 (.slice (some ⟨H, 0, none⟩) (n + 1) G) (n + 1) (flat encL (xs.take i ++ x :: xs.drop i)) ∧ Chg [] w W3 ∧ w.heap.size = H) := ⟨hfin, hch3, hH⟩
  have hni : ((i : Int) == (n : Int)) = false := by simp; omega
  have hcn : ¬ n = i := by omega
  have hgi : ¬ G = i := by omega
  have hgi1 : ¬ G = i + 1 := by omega
  have hti : ((i : Int) + 1).toNat = i + 1 := by omega
  have hwi : IntKind.i64.wrap ((i : Int) + 1) = (i : Int) + 1 := by rw [IntKind.wrap_i64]; omega
  have hb1 : (0 : Int) ≤ (i : Int) + 1 := by omega
  have hb2 : (i : Int) + 1 ≤ (n : Int) + 1 := by omega
  have hb3 : (i : Int) ≤ (n : Int) := by omega
  clear hrow1 hrow2 hrow3 hch1 hch2 hch3 hfin hH hold2 hO hZ hA hD hv1 hv hown
  go_enter Yba.func8, Yba.ntmps8
  go_wp2_with (first | (at_builtin; refine Lib.wpList_append_run _ rfl (.tmp 34) (.tmp 39) 77 3 rfl _ _ rfl rfl _ _ (hr1 _) ?_) | (at_builtin; refine wpList_copy_known _ rfl (.tmp 43) (.tmp 44) 77 77 rfl _ _ rfl rfl (hr2 _ _) ?_))
  go_region_law (refine step_copy_known rfl (.tmp 50) (.tmp 53) 77 77 rfl (.slice (some ⟨H, (i + 1) * 3, none⟩) (n - i) (G - (i + 1))) (.slice (some ⟨g0, i * 3, none⟩) (n - i) (n - i)) (by simp [Act.eval, Act.put]) (by simp [Act.eval, Act.put]) (hr3 _ _ _) ?_)
  go_wp2_with fail
  go_ret
  exact ⟨_, _, rfl, HF.out.1, HF.out.2.1.mono (by simp), .inr (by rw [HF.out.2.2]; exact Nat.le_refl _)⟩


/-- s[:i] with zeros behind it, in a new row. -/
theorem zerosH {g0 n i base : Nat} {xs : List Hd} {w : World} (hlen : xs.length = n) (hin : i < n) (hb : n ≤ 100000)
    (hown : w.ownsRow base 88 4 (.slice (some ⟨g0, 0, none⟩) n n) n (flat encH xs)) :
    ∃ W1 G O Z, (∀ ty, (Builtin.append_ #[81, 3] ty #[.slice (some ⟨g0, 0, none⟩) i n, .int .i64 ((n : Int) + 1 - (i : Int))]).run Yba.prog w = .ok (.slice (some ⟨w.heap.size, 0, none⟩) (n + 1) G) W1) ∧
      W1.heap[w.heap.size]? = some (.cells (flat encH (xs.take i) ++ O ++ Z).toArray 88 (0, 0)) ∧ O.length = 4 + (n - i) * 4 ∧ n + 1 ≤ G ∧ G ≤ 9223372036854775807 ∧ Z.length = (G - (n + 1)) * 4 ∧ Chg [] w W1 := by
  obtain ⟨i0, hi, hz0, hz1, hz2⟩ := info_parts info88
  have hcells := hown.cells (g := g0) rfl
  have hold : (Builtin.firstCells i0.size i (.slice (some ⟨g0, 0, none⟩) i n)).run Yba.prog w.drew = .ok (flat encH (xs.take i)).toArray w.drew := by
    rw [hz1]
    refine run_firstCells_some w.drew 4 i ⟨g0, 0, none⟩ i n (flat encH (xs.take i)) (by rw [flat_length encH_len, List.length_take]; omega) (fun j v hj => ?_)
    rw [← flat_take encH_len, List.getElem?_take] at hj
    split at hj
    · exact hcells j v hj
    · cases hj
  have hr := fun ty => Lib.run_append_grow_zeros w 81 3 ty 88 i0 _ .i64 .i64 Yba.underlying81 Yba.underlying3 hi hz0 (some ⟨g0, 0, none⟩) i n (flat encH (xs.take i)) hold (n + 1 - i) (by omega) (by omega) (by omega) (by omega) (by rw [hz2]; omega) (by rw [hz2]; exact growslice_fits (by omega) (by omega))
  rw [show i + (n + 1 - i) = n + 1 by omega, show ((n + 1 - i : Nat) : Int) = (n : Int) + 1 - (i : Int) by omega] at hr
  have hge := grownCap_ge w (n + 1) n 88
  have hle := grownCap_le_maxLen w (n + 1) n 88 (by unfold maxLen; omega)
  refine ⟨_, _, (Builtin.zeroCells (Value.cells (.agg #[.pointer none, .int .u8 0, .int .i32 0, .int .i64 0])) (n + 1 - i)).toList, (Builtin.zeroCells (Value.cells (.agg #[.pointer none, .int .u8 0, .int .i32 0, .int .i64 0])) (grownCap w (n + 1) n 88 - (n + 1))).toList, hr, ?_, ?_, hge, hle, ?_, ((Chg.refl [] w).drew.alloc _)⟩
  · refine (heap_alloc_new w.drew _).trans ?_
    generalize Builtin.zeroCells (Value.cells (.agg #[.pointer none, .int .u8 0, .int .i32 0, .int .i64 0])) (n + 1 - i) = A
    generalize Builtin.zeroCells (Value.cells (.agg #[.pointer none, .int .u8 0, .int .i32 0, .int .i64 0])) (grownCap w (n + 1) n 88 - (n + 1)) = B
    have : (flat encH (xs.take i) ++ A.toList ++ B.toList).toArray = (flat encH (xs.take i)).toArray ++ A ++ B := by
      apply Array.toList_inj.1
      simp
    rw [this]
  · rw [Array.length_toList, size_zeroCells]
    show (n + 1 - i) * 4 = _
    omega
  · rw [Array.length_toList, size_zeroCells]
    rfl

set_option maxRecDepth 100000 in
set_option maxHeartbeats 2000000 in
/-- .. in the middle, no room. -/
theorem insertH_grow (g0 n i gv base : Nat) (xs : List Hd) (x : Hd) (w : World) (hlen : xs.length = n) (hin : i < n) (hb : n ≤ 100000) (hbase : base ≤ w.heap.size)
    (hown : w.ownsRow base 88 4 (.slice (some ⟨g0, 0, none⟩) n n) n (flat encH xs)) (hv : w.heap[gv]? = some (.cells (encH x).toArray 88 (0, 0))) :
    Calls Yba.prog 9 #[.slice (some ⟨g0, 0, none⟩) n n, .int .i64 i, .slice (some ⟨gv, 0, none⟩) 1 1] w fun e w' => ∃ g cap, e = .returned (.slice (some ⟨g, 0, none⟩) (n + 1) cap) ∧ w'.ownsRow base 88 4 (.slice (some ⟨g, 0, none⟩) (n + 1) cap) (n + 1) (flat encH (xs.take i ++ x :: xs.drop i)) ∧ Chg [g0] w w' ∧ (g = g0 ∨ w.heap.size ≤ g) := by
  obtain ⟨i0, hi, hz0, hz1, hz2⟩ := info_parts info88
  have hsz : (Yba.prog.info? 88).map (·.size) = some 4 := by rw [hi]; simp [hz1]
  have hgv : gv < w.heap.size := by
    rcases Nat.lt_or_ge gv w.heap.size with h | h
    · exact h
    · rw [Array.getElem?_eq_none h] at hv; cases hv
  have hg0 : g0 < w.heap.size := (hown.lt g0 rfl).2
  obtain ⟨W1, G, O, Z, hr1, hrow1, hO, hG1, hG2, hZ, hch1⟩ := zerosH hlen hin hb hown
  obtain ⟨H, hH⟩ : ∃ H, w.heap.size = H := ⟨_, rfl⟩
  rw [hH] at hr1 hrow1 hgv hg0
  have hA : (flat encH (xs.take i)).length = i * 4 := by rw [flat_length encH_len, List.length_take]; congr 1; omega
  have hD : (flat encH (xs.drop i)).length = (n - i) * 4 := by rw [flat_length encH_len, List.length_drop, hlen]
  have hv1 : W1.heap[gv]? = some (.cells (encH x).toArray 88 (0, 0)) := (hch1.block gv (by omega) (by simp)).trans hv
  -- copy(s2[i:], v)
  obtain ⟨W2, hr2, hrow2, hch2⟩ : ∃ W2, (∀ ty dc, (Builtin.copy_ #[81, 81] ty #[.slice (some ⟨H, i * 4, none⟩) (n + 1 - i) dc, .slice (some ⟨gv, 0, none⟩) 1 1]).run Yba.prog W1 = .ok (goInt 1) W2) ∧
      W2.heap[H]? = some (.cells ((flat encH (xs.take i) ++ O ++ Z).take (i * 4) ++ encH x ++ (flat encH (xs.take i) ++ O ++ Z).drop (i * 4 + 4)).toArray 88 (0, 0)) ∧ Chg [] w W2 := by
    refine ⟨_, fun ty dc => run_copy_cells_s W1 81 81 ty 88 4 H (i * 4) (n + 1 - i) dc ⟨gv, 0, none⟩ 1 1 _ 88 1 (encH x) Yba.underlying81 hsz hrow1 (by simp only [Nat.min_def]; split <;> omega) rfl (World.news_of_block hv1) (by simp [hA, hO, encH_len]; omega) (encH_one x), ?_, ?_⟩
    · exact setRow_heap W1 H _ _ 88 _ hrow1
    · exact hch1.step (L' := [H]) ⟨rfl, rfl, rfl, by simp [World.setRow], fun k hk hn => setRow_other W1 H k _ (by simpa using hn)⟩ (by intro y hy hlt; simp at hy; omega)
  -- copy(s2[i+1:], s[i:])
  have hold2 : ∀ j v, (flat encH (xs.drop i))[j]? = some v → W2.cell? ((⟨g0, i * 4, none⟩ : Addr).add j) = some v := by
    intro j v hj
    rw [← flat_drop encH_len, List.getElem?_drop] at hj
    have hc := (hch2.own hown (by simp)).cells (g := g0) rfl _ v hj
    rw [Addr.add_lit] at hc ⊢
    simpa using hc
  obtain ⟨W3, hr3, hrow3, hch3⟩ : ∃ W3, (∀ ty dc sc, (Builtin.copy_ #[81, 81] ty #[.slice (some ⟨H, (i + 1) * 4, none⟩) (n - i) dc, .slice (some ⟨g0, i * 4, none⟩) (n - i) sc]).run Yba.prog W2.drew = .ok (goInt ((n - i : Nat) : Int)) W3) ∧
      W3.heap[H]? = some (.cells (flat encH (xs.take i) ++ encH x ++ flat encH (xs.drop i) ++ Z).toArray 88 (0, 0)) ∧ Chg [] w W3 := by
    refine ⟨_, fun ty dc sc => run_copy_cells_s W2.drew 81 81 ty 88 4 H ((i + 1) * 4) (n - i) dc ⟨g0, i * 4, none⟩ (n - i) sc _ 88 (n - i) (flat encH (xs.drop i)) Yba.underlying81 hsz hrow2 (by simp only [Nat.min_def]; split <;> omega) hD hold2 ?_ (flatH_one _), ?_, ?_⟩
    · simp [hA, hO, hZ, hD, encH_len]
      omega
    · refine (setRow_heap W2.drew H _ _ 88 _ hrow2).trans ?_
      have := fill_list (flat encH (xs.take i)) O (encH x) (flat encH (xs.drop i)) Z (i * 4) 4 ((n - i) * 4) hA hO (encH_len x) hD
      simp only at this
      rw [hD, show (i + 1) * 4 = i * 4 + 4 by omega]
      simp only [List.toList_toArray]
      rw [this]
    · exact (hch2.drew).step (L' := [H]) ⟨rfl, rfl, rfl, by simp [World.setRow], fun k hk hn => setRow_other W2.drew H k _ (by simpa using hn)⟩ (by intro y hy hlt; simp at hy; omega)
  have hfin : W3.ownsRow base 88 4 (.slice (some ⟨H, 0, none⟩) (n + 1) G) (n + 1) (flat encH (xs.take i ++ x :: xs.drop i)) := by
    have hl : (flat encH (xs.take i ++ x :: xs.drop i)).length = (n + 1) * 4 := by
      rw [flat_length encH_len]; congr 1; simp; omega
    have he : flat encH (xs.take i ++ x :: xs.drop i) = flat encH (xs.take i) ++ encH x ++ flat encH (xs.drop i) := by rw [flat_append, flat_cons, List.append_assoc]
    refine ⟨hl, .inr ⟨H, G, _, rfl, by omega, hrow3, hG1, hG2, ?_, ?_⟩⟩
    · rw [← he]
      simp only [List.size_toArray, List.length_append, hl, hZ]
      have := Nat.sub_add_cancel hG1
      rw [← Nat.add_mul]
      congr 1
      omega
    · rw [← he]
      simp only [List.toList_toArray]
      rw [← hl]
      exact List.take_left
  have HF : Hid (W3.ownsRow base 88 4 (.slice (some ⟨H, 0, none⟩) (n + 1) G) (n + 1) (flat encH (xs.take i ++ x :: xs.drop i)) ∧ Chg [] w W3 ∧ w.heap.size = H) := ⟨hfin, hch3, hH⟩
  have hni : ((i : Int) == (n : Int)) = false := by simp; omega
  have hcn : ¬ n = i := by omega
  have hgi : ¬ G = i := by omega
  have hgi1 : ¬ G = i + 1 := by omega
  have hti : ((i : Int) + 1).toNat = i + 1 := by omega
  have hwi : IntKind.i64.wrap ((i : Int) + 1) = (i : Int) + 1 := by rw [IntKind.wrap_i64]; omega
  have hb1 : (0 : Int) ≤ (i : Int) + 1 := by omega
  have hb2 : (i : Int) + 1 ≤ (n : Int) + 1 := by omega
  have hb3 : (i : Int) ≤ (n : Int) := by omega
  clear hrow1 hrow2 hrow3 hch1 hch2 hch3 hfin hH hold2 hO hZ hA hD hv1 hv hown
  go_enter Yba.func9, Yba.ntmps9
  go_wp2_with (first | (at_builtin; refine Lib.wpList_append_run _ rfl (.tmp 34) (.tmp 39) 81 3 rfl _ _ rfl rfl _ _ (hr1 _) ?_) | (at_builtin; refine wpList_copy_known _ rfl (.tmp 43) (.tmp 44) 81 81 rfl _ _ rfl rfl (hr2 _ _) ?_))
  go_region_law (refine step_copy_known rfl (.tmp 50) (.tmp 53) 81 81 rfl (.slice (some ⟨H, (i + 1) * 4, none⟩) (n - i) (G - (i + 1))) (.slice (some ⟨g0, i * 4, none⟩) (n - i) (n - i)) (by simp [Act.eval, Act.put]) (by simp [Act.eval, Act.put]) (hr3 _ _ _) ?_)
  go_wp2_with fail
  go_ret
  exact ⟨_, _, rfl, HF.out.1, HF.out.2.1.mono (by simp), .inr (by rw [HF.out.2.2]; exact Nat.le_refl _)⟩


end Go.Proofs.Ybulkdkve.lawS5594CWhole

import Derived.Test.YbulkdkwuSegF
namespace Go.Proofs.Ybulkdkwu.lawS5597AWhole
open Go.RowKit Go.Deep
set_option linter.unusedVariables false
set_option linter.unusedSimpArgs false

abbrev pCells (bs : Nat) : Array Value := #[.int .i64 bs, .nilFunc, .nilFunc, .chan none, .chan none, .slice none 0 0, .pointer none, .int .u64 0, .nilIface, .int .i64 0, .int .i32 0, .int .u32 0, .int .i64 0]
/-- The Parallel. -/
def pRow (bs : Nat) (op er : Value) (t : Nat) : Value := if t = 6 then op else if t = 8 then er else (pCells bs)[t]?.getD undef

/-- Ahead of the BlockDigests. -/
structure Mid (bs ds lvb dsb cb logb fa fb pb eb L cd ns cs : Nat) (F : Int) (op er : Value) (sa ad a7 : Option Addr) (a4 : Bool) (D D2 : Nat → Int) (w W : World) : Prop where
  f : W.rowIs fa 3 1 (fun _ => .int .i64 F)
  d : W.rowIs dsb 3 1 (fun _ => .int .i64 ds)
  v : W.rowIs fb 26 1 (fun _ => .iface 60 (pt eb))
  lv : W.rowIs lvb 4 1 (fun _ => .bool true)
  l : W.rowIs logb 30 1 (fun _ => .slice none 0 0)
  c : W.rowIs cb 3 1 (fun _ => .int .i64 0)
  p : W.rowIs pb 48 13 (pRow bs op er)
  op : (a4 = false ∧ op = .pointer none) ∨ (a4 = true ∧ ∃ ch, op = pt ch ∧ ch ≠ pb ∧ W.cell? ⟨ch, 0, none⟩ = some (.slice ad L cd))
  dv : W.ownsRow w.heap.size 5 1 (.slice ad L cd) L (bl D L)
  sv : W.ownsRow w.heap.size 5 1 (.slice sa ns cs) ns (bl D2 ns)
  ap : ∀ x, (Value.slice ad L cd).ownBlock = some x → (Value.slice sa ns cs).ownBlock ≠ some x
  fc : fa ≠ cb
  dc : dsb ≠ cb
  chg : Chg [] w W
  sn : sa.isNone = a7.isNone
  own : w.heap.size ≤ cb ∧ w.heap.size ≤ logb ∧ w.heap.size ≤ pb

section
variable {bs ds lvb dsb cb logb fa fb pb eb L cd ns cs : Nat} {F : Int} {op er : Value} {sa ad a7 : Option Addr} {a4 : Bool} {D D2 : Nat → Int} {w W : World}

/-- Nothing but new blocks, and a store into the Parallel. -/
theorem Mid.keep {op' er' : Value} {W1 : World} {a4' : Bool} (m : Mid bs ds lvb dsb cb logb fa fb pb eb L cd ns cs F op er sa ad a7 a4' D D2 w W) (h : Chg [pb] W W1) (hp : W1.rowIs pb 48 13 (pRow bs op' er'))
    (ho : (a4 = false ∧ op' = .pointer none) ∨ (a4 = true ∧ ∃ ch, op' = pt ch ∧ ch ≠ pb ∧ W1.cell? ⟨ch, 0, none⟩ = some (.slice ad L cd))) : Mid bs ds lvb dsb cb logb fa fb pb eb L cd ns cs F op' er' sa ad a7 a4 D D2 w W1 := by
  have no : ∀ {x t n : Nat} {f : Nat → Value}, W.rowIs x t n f → t ≠ 48 → x ∉ [pb] := fun hr ht hm => by
    rw [List.mem_singleton] at hm
    exact row_ne hr m.p ht hm
  have nv : ∀ {v : Value} {n : Nat} {xs : List Value}, W.ownsRow w.heap.size 5 1 v n xs → ∀ g, v.ownBlock = some g → g ∉ [pb] := fun hr g hg hm => by
    rw [List.mem_singleton] at hm
    rw [hm] at hg
    exact own_row_apart hr m.p (by decide) hg
  refine ⟨h.row m.f (no m.f (by decide)), h.row m.d (no m.d (by decide)), h.row m.v (no m.v (by decide)), h.row m.lv (no m.lv (by decide)), h.row m.l (no m.l (by decide)), h.row m.c (no m.c (by decide)), hp, ho, h.own m.dv (nv m.dv), h.own m.sv (nv m.sv), m.ap, m.fc, m.dc, ?_, m.sn, m.own⟩
  refine m.chg.step h ?_
  intro x hx hlt
  rw [List.mem_singleton] at hx
  have := m.own.2.2
  omega

/-- The chunk laid open. -/
theorem Mid.opens (m : Mid bs ds lvb dsb cb logb fa fb pb eb L cd ns cs F (.pointer none) er sa ad a7 false D D2 w W) (cc : Array Value) (hc : cc[0]? = some (.slice ad L cd)) :
    Mid bs ds lvb dsb cb logb fa fb pb eb L cd ns cs F (pt W.heap.size) er sa ad a7 true D D2 w ((W.alloc (.cells cc 51)).setCell ⟨pb, 6, none⟩ (pt W.heap.size)) := by
  have hlt := m.p.lt
  have hne : W.heap.size ≠ pb := by omega
  refine m.keep (((Chg.refl [pb] W).alloc _).setCell _ _ (by simp)) (((m.p.alloc _).set 6 _).congr fun t ht => ?_) (.inr ⟨rfl, W.heap.size, rfl, hne, ?_⟩)
  · unfold pRow
    by_cases h6 : t = 6
    · simp [h6]
    · simp [h6]
  · rw [World.cell?_of_block (w := W.alloc (.cells cc 51)) (blk_setCell_other _ _ _ _ (by simpa using hne))]
    simp only [World.cell?, heap_alloc_new]
    simpa using hc

theorem Mid.err (m : Mid bs ds lvb dsb cb logb fa fb pb eb L cd ns cs F op .nilIface sa ad a7 a4 D D2 w W) (v : Value) :
    Mid bs ds lvb dsb cb logb fa fb pb eb L cd ns cs F op v sa ad a7 a4 D D2 w (W.setCell ⟨pb, 8, none⟩ v) := by
  refine m.keep ((Chg.refl [pb] W).setCell _ _ (by simp)) ((m.p.set 8 _).congr fun t ht => ?_) ?_
  · unfold pRow
    by_cases h6 : t = 6
    · subst h6; simp
    · by_cases h8 : t = 8
      · subst h8; simp
      · simp [h6, h8]
  · rcases m.op with h | ⟨h1, ch, h2, h3, h4⟩
    · exact .inl h
    · refine .inr ⟨h1, ch, h2, h3, ?_⟩
      rw [World.cell?_of_block (w := W) (blk_setCell_other _ _ _ _ (by simpa using h3))]
      exact h4

/-- The BlockDigests laid. -/
theorem Mid.pre {n : Int} {a5 : Bool} {sb : Nat} (m : Mid bs ds lvb dsb cb logb fa fb pb eb L cd ns cs F op (if a5 = true then .iface 60 (pt sb) else .nilIface) sa ad a7 a4 D D2 w W) (bc : Array Value) (hsz : bc.size = 7) (hb : ∀ t, t < 7 → bc[t]? = some (bRow bs ds lvb dsb cb logb fa fb pb n (.slice sa ns cs) t)) :
    Pre bs ds lvb dsb W.heap.size cb logb fa fb pb eb sb L cd ns cs n F sa ad a7 a4 a5 D D2 w (W.alloc (.cells bc 55)) := by
  have h : Chg [] W (W.alloc (.cells bc 55)) := (Chg.refl [] W).alloc _
  have hr := World.rowIs_alloc W bc 55 (bRow bs ds lvb dsb cb logb fa fb pb n (.slice sa ns cs)) (fun i hi => hb i (by omega))
  rw [hsz] at hr
  have hp := h.row m.p (by simp)
  refine ⟨h.row m.f (by simp), h.row m.d (by simp), h.row m.v (by simp), h.row m.lv (by simp), h.row m.l (by simp), h.row m.c (by simp), hr, ?_, ?_, ?_, h.own m.dv (by simp), h.own m.sv (by simp), m.ap, m.fc, m.dc, m.chg.trans h, m.sn, m.chg.size, m.own.1, m.own.2.1⟩
  · rw [hp.cell (i := 3) (by omega)]; rfl
  · have h6 := hp.cell (i := 6) (by omega)
    rcases m.op with ⟨h1, h2⟩ | ⟨h1, ch, h2, h3, h4⟩
    · exact .inl ⟨h1, by rw [h6, h2]; rfl⟩
    · exact .inr ⟨h1, ch, by rw [h6, h2]; rfl, h.cell h4 (by simp)⟩
  · rw [hp.cell (i := 8) (by omega)]; rfl

theorem mid0 {w1 w2 : World} (hdv : w1.ownsRow (w.heap.size + 2) 5 1 (.slice ad L cd) L (bl D L)) (hch1 : Chg [] ((w.alloc (.cells #[.int .i64 F] 3)).alloc (.cells #[.int .i64 ds] 3)) w1) (hsv : w2.ownsRow w1.heap.size 5 1 (.slice sa ns cs) ns (bl D2 ns)) (hch2 : Chg [] w1 w2) (hsn : sa.isNone = a7.isNone) (s1 s2 : ByteArray) :
    Mid bs ds (w2.heap.size + 3) (w.heap.size + 1) (w2.heap.size + 5) (w2.heap.size + 4) w.heap.size (w2.heap.size + 2) (w2.heap.size + 6) (w2.heap.size + 1) L cd ns cs F (.pointer none) .nilIface sa ad a7 false D D2 w
      (((((((w2.alloc (.cells #[.string s1] 62)).alloc (.cells #[.string s2] 62)).alloc (.cells #[.iface 60 (pt (w2.heap.size + 1))] 26)).alloc (.cells #[.bool true] 4)).alloc (.cells #[.slice none 0 0] 30)).alloc (.cells #[.int .i64 0] 3)).alloc (.cells (pCells bs) 48)) := by
  have hsz0 : ((w.alloc (.cells #[.int .i64 F] 3)).alloc (.cells #[.int .i64 ds] 3)).heap.size = w.heap.size + 2 := by simp
  have hs1 := hch1.size
  have hs2 := hch2.size
  rw [hsz0] at hs1
  have one : ∀ (W : World) (v : Value) (t : Nat), (W.alloc (.cells #[v] t)).rowIs W.heap.size t 1 (fun _ => v) := fun W v t => World.rowIs_alloc W #[v] t _ (by intro i hi; match i, hi with | 0, _ => rfl)
  have hF0 := (hch2.row (hch1.row ((one w (.int .i64 F) 3).alloc (.cells #[.int .i64 ds] 3)) (by simp)) (by simp))
  have hd0 : w2.rowIs (w.heap.size + 1) 3 1 (fun _ => .int .i64 ds) := by
    have h := one (w.alloc (.cells #[.int .i64 F] 3)) (.int .i64 ds) 3
    rw [show (w.alloc (.cells #[.int .i64 F] 3)).heap.size = w.heap.size + 1 by simp] at h
    exact hch2.row (hch1.row h (by simp)) (by simp)
  have hbase : ∀ {v : Value} {n : Nat} {xs : List Value} {b : Nat}, w.heap.size ≤ b → w2.ownsRow b 5 1 v n xs → w2.ownsRow w.heap.size 5 1 v n xs := fun hb h => ⟨h.1, by
    rcases h.2 with h1 | ⟨g, c, cur, h1, h2, h3⟩
    · exact .inl h1
    · exact .inr ⟨g, c, cur, h1, Nat.le_trans hb h2, h3⟩⟩
  have hdv2 := hch2.own hdv (by simp)
  have hv := one ((w2.alloc (.cells #[.string s1] 62)).alloc (.cells #[.string s2] 62)) (.iface 60 (pt (w2.heap.size + 1))) 26
  have hl := one (((w2.alloc (.cells #[.string s1] 62)).alloc (.cells #[.string s2] 62)).alloc (.cells #[.iface 60 (pt (w2.heap.size + 1))] 26)) (.bool true) 4
  have hg := one ((((w2.alloc (.cells #[.string s1] 62)).alloc (.cells #[.string s2] 62)).alloc (.cells #[.iface 60 (pt (w2.heap.size + 1))] 26)).alloc (.cells #[.bool true] 4)) (.slice none 0 0) 30
  have hc := one (((((w2.alloc (.cells #[.string s1] 62)).alloc (.cells #[.string s2] 62)).alloc (.cells #[.iface 60 (pt (w2.heap.size + 1))] 26)).alloc (.cells #[.bool true] 4)).alloc (.cells #[.slice none 0 0] 30)) (.int .i64 0) 3
  have hp := World.rowIs_alloc ((((((w2.alloc (.cells #[.string s1] 62)).alloc (.cells #[.string s2] 62)).alloc (.cells #[.iface 60 (pt (w2.heap.size + 1))] 26)).alloc (.cells #[.bool true] 4)).alloc (.cells #[.slice none 0 0] 30)).alloc (.cells #[.int .i64 0] 3)) (pCells bs) 48 (pRow bs (.pointer none) .nilIface) (by
    intro i hi
    match i, hi with
    | 0, _ | 1, _ | 2, _ | 3, _ | 4, _ | 5, _ | 6, _ | 7, _ | 8, _ | 9, _ | 10, _ | 11, _ | 12, _ => rfl
    | k + 13, h => simp [pCells] at h; omega)
  rw [show ((w2.alloc (.cells #[.string s1] 62)).alloc (.cells #[.string s2] 62)).heap.size = w2.heap.size + 2 by simp] at hv
  rw [show (((w2.alloc (.cells #[.string s1] 62)).alloc (.cells #[.string s2] 62)).alloc (.cells #[.iface 60 (pt (w2.heap.size + 1))] 26)).heap.size = w2.heap.size + 3 by simp] at hl
  rw [show ((((w2.alloc (.cells #[.string s1] 62)).alloc (.cells #[.string s2] 62)).alloc (.cells #[.iface 60 (pt (w2.heap.size + 1))] 26)).alloc (.cells #[.bool true] 4)).heap.size = w2.heap.size + 4 by simp] at hg
  rw [show (((((w2.alloc (.cells #[.string s1] 62)).alloc (.cells #[.string s2] 62)).alloc (.cells #[.iface 60 (pt (w2.heap.size + 1))] 26)).alloc (.cells #[.bool true] 4)).alloc (.cells #[.slice none 0 0] 30)).heap.size = w2.heap.size + 5 by simp] at hc
  rw [show ((((((w2.alloc (.cells #[.string s1] 62)).alloc (.cells #[.string s2] 62)).alloc (.cells #[.iface 60 (pt (w2.heap.size + 1))] 26)).alloc (.cells #[.bool true] 4)).alloc (.cells #[.slice none 0 0] 30)).alloc (.cells #[.int .i64 0] 3)).heap.size = w2.heap.size + 6 by simp] at hp
  have hall : Chg [] w2 (((((((w2.alloc (.cells #[.string s1] 62)).alloc (.cells #[.string s2] 62)).alloc (.cells #[.iface 60 (pt (w2.heap.size + 1))] 26)).alloc (.cells #[.bool true] 4)).alloc (.cells #[.slice none 0 0] 30)).alloc (.cells #[.int .i64 0] 3)).alloc (.cells (pCells bs) 48)) := (((((((Chg.refl [] w2).alloc _).alloc _).alloc _).alloc _).alloc _).alloc _).alloc _
  refine ⟨hall.row hF0 (by simp), hall.row hd0 (by simp), ((((hv.alloc _).alloc _).alloc _).alloc _), (((hl.alloc _).alloc _).alloc _), ((hg.alloc _).alloc _), (hc.alloc _), hp, .inl ⟨rfl, rfl⟩, hall.own (hbase (by omega) hdv2) (by simp), hall.own (hbase (by omega) hsv) (by simp), ?_, by omega, by omega, ?_, hsn, by omega, by omega, by omega⟩
  · intro x hx hy
    have h1 := (hdv.lt x hx).2
    have h2 := (hsv.lt x hy).1
    omega
  · exact ((((Chg.refl [] w).alloc _).alloc _).trans hch1).trans (hch2.trans hall)
end
end Go.Proofs.Ybulkdkwu.lawS5597AWhole

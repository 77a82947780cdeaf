import Derived.Test.YbulkdkvsSearch
namespace Go.Proofs.Ybulkdkvs.lawS5595CWhole
open Go.RowKit Go.Deep
set_option linter.unusedVariables false
set_option linter.unusedSimpArgs false

/-- A chunk: its row's block, the number of its first tablet, its length. -/
structure Ck where
  b : Nat
  s : Nat
  m : Nat
def Ck.val (c : Ck) : Value := .slice (some ⟨c.b, 0, none⟩) c.m c.m

theorem info29 : (Yba.prog.info? 29).map (fun i => (i.zero, i.size, i.bytes)) = some (some (.pointer none), 1, 8) := by kernel_rfl
theorem info24 : (Yba.prog.info? 24).map (fun i => (i.zero, i.size, i.bytes)) = some (some (.slice none 0 0), 1, 24) := by kernel_rfl

/-- A tablet as the law makes it. -/
abbrev tabCells (i : Nat) : Array Value := #[.string ⟨#[]⟩, .int .i64 0, .int .i64 0, .int .i64 i, .bool false, .bool false, .int .i64 i, .int .i64 (-1)]
def tabAt (i t : Nat) : Value := (tabCells i)[t]?.getD undef
/-- The first k places of a chunk's row. -/
def ckRow (gs : List Nat) (s k : Nat) (t : Nat) : Value := if t < k then pt (gs.getD (s + t) 0) else .pointer none

theorem row_apart {w : World} {b t n b' t' n' : Nat} {f f' : Nat → Value} (h : w.rowIs b t n f) (h' : w.rowIs b' t' n' f') (ht : t ≠ t') : b ≠ b' := by
  rintro rfl
  obtain ⟨c, hc, _⟩ := h
  obtain ⟨c', hc', _⟩ := h'
  rw [hc] at hc'
  injection hc' with hc'
  injection hc' with _ hc'
  exact ht hc'

/-- The order and 'flat', as far as they are built. -/
structure Bld (B : Nat) (fv chv : Value) (gs : List Nat) (cs : List Ck) (w0 w : World) : Prop where
  o : w.rowIs B 28 1 (fun _ => chv)
  fo : w.ownsRow (B + 1) 29 1 fv gs.length (gs.map pt)
  co : w.ownsRow (B + 1) 24 1 chv cs.length (cs.map Ck.val)
  tab : ∀ i b, gs[i]? = some b → B + 1 ≤ b ∧ w.rowIs b 31 8 (tabAt i)
  row : ∀ c ∈ cs, B + 1 ≤ c.b ∧ c.s + c.m ≤ gs.length ∧ fv.ownBlock ≠ some c.b ∧ w.rowIs c.b 29 c.m (ckRow gs c.s c.m)
  bel : Below B w0 w
  size : B + 1 ≤ w.heap.size

section
variable {B : Nat} {fv chv : Value} {gs : List Nat} {cs : List Ck} {w0 w w1 w2 : World}

theorem Bld.start (w : World) : Bld w.heap.size (.slice none 0 0) (.slice none 0 0) [] [] w (w.alloc (.cells #[.slice none 0 0] 28)) :=
  ⟨World.rowIs_alloc w #[.slice none 0 0] 28 _ (by intro i hi; match i, hi with | 0, _ => rfl), World.ownsRow_nil _ _ _ _, World.ownsRow_nil _ _ _ _, by simp, by simp, (Below.refl _ w).alloc (Nat.le_refl _) _, by simp⟩

/-- Nothing but new blocks. -/
theorem Bld.more (p : Bld B fv chv gs cs w0 w) (h : Chg [] w w1) : Bld B fv chv gs cs w0 w1 :=
  ⟨h.row p.o (by simp), h.own p.fo (by simp), h.own p.co (by simp), fun i b hb => ⟨(p.tab i b hb).1, h.row (p.tab i b hb).2 (by simp)⟩, fun c hc => ⟨(p.row c hc).1, (p.row c hc).2.1, (p.row c hc).2.2.1, h.row (p.row c hc).2.2.2 (by simp)⟩, h.below p.bel (by have := p.size; omega) (by simp), Nat.le_trans p.size h.size⟩

/-- A chunk in the making: k of its m places are laid. -/
structure Inn (B : Nat) (fv chv : Value) (gs : List Nat) (cs : List Ck) (cb s m k : Nat) (w0 w : World) : Prop where
  bld : Bld B fv chv gs cs w0 w
  len : gs.length = s + k
  lt : B + 1 ≤ cb
  apart : fv.ownBlock ≠ some cb
  far : ∀ c ∈ cs, c.b ≠ cb
  here : w.rowIs cb 29 m (ckRow gs s k)

theorem Bld.make (p : Bld B fv chv gs cs w0 w) (m : Nat) : Inn B fv chv gs cs w.heap.size gs.length m 0 w0 (w.alloc (.cells (madeCells #[.pointer none] m) 29)) := by
  have hch : Chg [] w (w.alloc (.cells (madeCells #[.pointer none] m) 29)) := (Chg.refl [] w).alloc _
  refine ⟨p.more hch, rfl, p.size, ?_, ?_, (World.rowIs_made w (.pointer none) m 29).congr fun i _ => by simp [ckRow]⟩
  · intro h
    have := p.fo.lt _ h
    omega
  · intro c hc h
    have := (p.row c hc).2.2.2.lt
    omega

theorem getD_push {gs : List Nat} {x : Nat} {i : Nat} (h : i < gs.length) : (gs ++ [x]).getD i 0 = gs.getD i 0 := by
  simp [List.getElem?_append_left h]
theorem getD_end {gs : List Nat} {x : Nat} {i : Nat} (h : i = gs.length) : (gs ++ [x]).getD i 0 = x := by
  subst h
  simp

/-- One tablet more. -/
theorem Inn.step {cb s m k : Nat} (p : Inn B fv chv gs cs cb s m k w0 w) (hk : k < m) {n : Nat} (hn : gs.length = n) {g c : Nat}
    (hg : (((w.alloc (.cells (tabCells n) 31)).setCell ⟨cb, k, none⟩ (pt w.heap.size)).alloc (.cells #[pt w.heap.size] 29)).grownBy w2 fv.ownBlock)
    (hown : w2.ownsRow (B + 1) 29 1 (.slice (some ⟨g, 0, none⟩) (n + 1) c) (n + 1) (gs.map pt ++ [pt w.heap.size])) (hat : fv.ownBlock = some g ∨ g = w.heap.size + 1 + 1) :
    Inn B (.slice (some ⟨g, 0, none⟩) (n + 1) c) chv (gs ++ [w.heap.size]) cs cb s m (k + 1) w0 w2 := by
  have q := p.bld
  have hsz := q.size
  have hcl := p.here.lt
  have hfl : ∀ b, fv.ownBlock = some b → B + 1 ≤ b ∧ b < w.heap.size := fun b hb => q.fo.lt b hb
  have hT := World.rowIs_alloc w (tabCells n) 31 (tabAt n) (fun i hi => by
    match i, hi with
    | 0, _ | 1, _ | 2, _ | 3, _ | 4, _ | 5, _ | 6, _ | 7, _ => rfl
    | k + 8, h => simp [tabCells] at h; omega)
  have ch2 : Chg (cb :: fv.ownBlock.toList) (w.alloc (.cells (tabCells n) 31)) w2 :=
    (((Chg.refl _ _).setCell ⟨cb, k, none⟩ (pt w.heap.size) (by simp)).alloc _).grown hg (by intro b hb _; rw [hb]; simp)
  have ch1 : Chg (cb :: fv.ownBlock.toList) w w2 := (((Chg.refl [] w).alloc _).trans ch2).mono (by intro x hx _; simpa using hx)
  have hin : ∀ b, b ∈ cb :: fv.ownBlock.toList → b = cb ∨ fv.ownBlock = some b := by
    intro b hb
    rcases List.mem_cons.1 hb with h | h
    · exact .inl h
    · rw [Option.mem_toList] at h
      exact .inr h
  have hout : ∀ b, b ≠ cb → fv.ownBlock ≠ some b → b ∉ cb :: fv.ownBlock.toList := by
    intro b h1 h2 hb
    rcases hin b hb with h | h
    · exact h1 h
    · exact h2 h
  have here2 : w2.rowIs cb 29 m (fun j => if j = k then pt w.heap.size else ckRow gs s k j) := by
    have h1 := ((p.here.alloc (.cells (tabCells n) 31)).set k (pt w.heap.size)).alloc (.cells #[pt w.heap.size] 29)
    exact ((Chg.refl (fv.ownBlock.toList) _).grown hg (by intro b hb _; rw [hb]; simp)).row h1 (by rw [Option.mem_toList]; exact p.apart)
  have hgne : ∀ b, b < w.heap.size → fv.ownBlock ≠ some b → g ≠ b := by
    intro b hb hne
    rcases hat with h | h
    · rintro rfl; exact hne h
    · omega
  refine ⟨⟨ch1.row q.o (hout _ (by have := p.lt; omega) (fun h => by have := hfl _ h; omega)), by simpa [hn] using hown, ch1.own q.co ?_, ?_, ?_, ch1.below q.bel (by omega) ?_, Nat.le_trans hsz ch1.size⟩, by simp [p.len]; omega, p.lt, ?_, p.far, here2.congr ?_⟩
  · intro b hb
    refine hout b ?_ ?_
    · rintro rfl
      exact own_row_apart q.co p.here (by decide) hb
    · exact fun h => own_apart q.co q.fo (by decide) hb h
  · intro i b hb
    rw [List.getElem?_append] at hb
    split at hb
    · have h1 := q.tab i b hb
      refine ⟨h1.1, ch1.row h1.2 (hout b ?_ ?_)⟩
      · exact row_apart h1.2 p.here (by decide)
      · exact own_row_apart q.fo h1.2 (by decide)
    · rename_i hi
      have hi2 : i = n := by
        rcases Nat.lt_or_ge (i - gs.length) 1 with h | h
        · omega
        · rw [List.getElem?_eq_none (by simpa using h)] at hb; cases hb
      subst hi2
      rw [hn] at hb
      simp at hb
      subst hb
      refine ⟨by omega, ch2.row hT (hout _ ?_ ?_)⟩
      · omega
      · intro h; have := hfl _ h; omega
  · intro x hx
    have h1 := q.row x hx
    refine ⟨h1.1, by simp; omega, ?_, (ch1.row h1.2.2.2 (hout _ (p.far x hx) h1.2.2.1)).congr ?_⟩
    · intro h
      simp [Value.ownBlock] at h
      exact hgne x.b h1.2.2.2.lt h1.2.2.1 h
    · intro i hi
      simp only [ckRow, if_pos hi]
      rw [getD_push (by omega)]
  · intro b hb
    rcases hin b hb with h | h
    · have := p.lt; omega
    · have := hfl b h; omega
  · intro h
    simp [Value.ownBlock] at h
    exact hgne cb hcl p.apart h
  · intro i hi
    have hlen := p.len
    simp only [ckRow]
    by_cases h1 : i = k
    · rw [if_pos h1, if_pos (by omega), getD_end (by omega)]
    · rw [if_neg h1]
      by_cases h2 : i < k
      · rw [if_pos h2, if_pos (by omega), getD_push (by omega)]
      · rw [if_neg h2, if_neg (by omega)]

/-- The chunk, whole, is laid into the order. -/
theorem Inn.close {cb s m : Nat} (p : Inn B fv chv gs cs cb s m m w0 w) {j : Nat} (hj : cs.length = j) {g c : Nat}
    (hg : (w.alloc (.cells #[.slice (some ⟨cb, 0, none⟩) m m] 24)).grownBy w2 chv.ownBlock)
    (hown : w2.ownsRow (B + 1) 24 1 (.slice (some ⟨g, 0, none⟩) (j + 1) c) (j + 1) (cs.map Ck.val ++ [.slice (some ⟨cb, 0, none⟩) m m])) :
    Bld B fv (.slice (some ⟨g, 0, none⟩) (j + 1) c) gs (cs ++ [⟨cb, s, m⟩]) w0 (w2.setCell ⟨B, 0, none⟩ (.slice (some ⟨g, 0, none⟩) (j + 1) c)) := by
  have q := p.bld
  have hsz := q.size
  have hfl : ∀ b, chv.ownBlock = some b → B + 1 ≤ b ∧ b < w.heap.size := fun b hb => q.co.lt b hb
  have ch1 : Chg chv.ownBlock.toList w w2 := ((Chg.refl _ w).alloc _).grown hg (by intro b hb _; rw [hb]; simp)
  have ch2 : Chg (B :: chv.ownBlock.toList) w (w2.setCell ⟨B, 0, none⟩ (.slice (some ⟨g, 0, none⟩) (j + 1) c)) := (ch1.mono (by intro x hx _; simp at hx ⊢; exact .inr hx)).setCell _ _ (by simp)
  have hout : ∀ b, B + 1 ≤ b → chv.ownBlock ≠ some b → b ∉ B :: chv.ownBlock.toList := by
    intro b h1 h2 hb
    rcases List.mem_cons.1 hb with h | h
    · omega
    · rw [Option.mem_toList] at h
      exact h2 h
  have hlen := p.len
  refine ⟨?_, ch2.own q.fo ?_, ?_, ?_, ?_, ch2.below q.bel (by omega) ?_, Nat.le_trans hsz ch2.size⟩
  · exact ((ch1.row q.o (by intro h; rw [Option.mem_toList] at h; have := hfl _ h; omega)).set 0 _).congr (by intro i hi; simp; omega)
  · intro b hb
    exact hout b (q.fo.lt b hb).1 (fun h => own_apart q.co q.fo (by decide) h hb)
  · refine own_setCell (by simpa [hj, Ck.val] using hown) _ _ ?_
    intro b hb
    have := (hown.lt b hb).1
    simp
    omega
  · intro i b hb
    have h1 := q.tab i b hb
    exact ⟨h1.1, ch2.row h1.2 (hout b h1.1 (own_row_apart q.co h1.2 (by decide)))⟩
  · intro x hx
    rcases List.mem_append.1 hx with hx | hx
    · have h1 := q.row x hx
      exact ⟨h1.1, h1.2.1, h1.2.2.1, ch2.row h1.2.2.2 (hout _ h1.1 (own_row_apart q.co h1.2.2.2 (by decide)))⟩
    · rw [List.mem_singleton] at hx
      subst hx
      exact ⟨p.lt, by simp; omega, p.apart, ch2.row p.here (hout _ p.lt (own_row_apart q.co p.here (by decide)))⟩
  · intro b hb
    rcases List.mem_cons.1 hb with h | h
    · omega
    · rw [Option.mem_toList] at h
      have := hfl b h
      omega
end
end Go.Proofs.Ybulkdkvs.lawS5595CWhole

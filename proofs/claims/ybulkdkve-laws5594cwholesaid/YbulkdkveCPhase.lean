import Derived.Test.YbulkdkveCTable
import Derived.Test.YbulkdkveCInsC
import Derived.Test.YbulkdkveCEqual
namespace Go.Proofs.Ybulkdkve.lawS5594CWhole
open Go.RowKit Go.Deep
set_option linter.unusedVariables false
set_option linter.unusedSimpArgs false

/-- What the walk is told of a slice of bytes that came in. -/
def Rd (w : World) (a : Option Addr) (len : Nat) (Z : Nat → Int) : Prop :=
  len = 0 ∨ ∃ b off, a = some ⟨b, off, none⟩ ∧ b < w.heap.size ∧ ∀ i, i < len → w.cell? ⟨b, off + i, none⟩ = some (.int .u8 (Z i)) ∧ 0 ≤ Z i ∧ Z i ≤ 255

def TyAt (w : World) (b t : Nat) : Prop := ∃ c, w.heap[b]? = some (.cells c t (0, 0))
theorem TyAt.lies {w : World} {b t : Nat} (h : TyAt w b t) : Lies w b := by obtain ⟨c, hc⟩ := h; exact ⟨c, t, hc⟩
theorem TyAt.lt {w : World} {b t : Nat} (h : TyAt w b t) : b < w.heap.size := by
  obtain ⟨c, hc⟩ := h
  rcases Nat.lt_or_ge b w.heap.size with h | h
  · exact h
  · rw [Array.getElem?_eq_none h] at hc; cases hc
theorem TyAt.chg {L : List Nat} {w w' : World} {b t : Nat} (h : Chg L w w') (hl : TyAt w b t) (hb : b ∉ L) : TyAt w' b t := by
  have hlt := hl.lt
  obtain ⟨c, hc⟩ := hl
  exact ⟨c, (h.block b hlt hb).trans hc⟩
theorem TyAt.setCell {w : World} {b t : Nat} (hl : TyAt w b t) (a : Addr) (v : Value) : TyAt (w.setCell a v) b t := by
  obtain ⟨c, hc⟩ := hl
  by_cases h : b = a.block
  · subst h
    exact ⟨_, by simp [World.setCell, Array.getElem?_modify, hc]; rfl⟩
  · exact ⟨c, (blk_setCell_other _ _ _ _ h).trans hc⟩
theorem TyAt.new (w : World) (c : Array Value) (t : Nat) : TyAt (w.alloc (.cells c t)) w.heap.size t := ⟨c, heap_alloc_new w _⟩
theorem ty_apart {w : World} {base : Nat} {e : TypeId} {s : Nat} {v : Value} {n : Nat} {xs : List Value} {b t : Nat} (h : w.ownsRow base e s v n xs) (hr : TyAt w b t) (he : e ≠ t) : v.ownBlock ≠ some b := by
  intro hg
  rcases h.2 with ⟨rfl, _⟩ | ⟨g1, c1, cur1, rfl, _, hh1, _⟩
  · simp [Value.ownBlock] at hg
  · simp [Value.ownBlock] at hg
    subst hg
    obtain ⟨c, hc⟩ := hr
    rw [hh1] at hc
    injection hc with hc
    injection hc with _ hc
    exact he hc

structure Phase (B : Nat) (tz rz : Nat → Value) (nm : ByteArray) (pol : Int) (hv lv : Value) (hs : List Hd) (ls : List Lk) (hc : Nat → Int) (N : Int) (w wr : World) : Prop where
  sys : Sys B tz rz nm hv lv hs ls hc wr
  tab : Tab B pol wr
  gh : ∀ x ∈ hs, B + 4 ≤ x.b ∧ TyAt wr x.b 80
  gl : ∀ x ∈ ls, B + 4 ≤ x.b ∧ TyAt wr x.b 86
  bel : Below B w wr
  size : B + 4 ≤ wr.heap.size
  cnt : ∀ j, 0 ≤ hc j ∧ hc j ≤ N

section
variable {B : Nat} {tz rz : Nat → Value} {nm : ByteArray} {pol : Int} {hv lv : Value} {hs : List Hd} {ls : List Lk} {hc : Nat → Int} {N : Int} {w wr w1 : World}

/-- A new holders' slice laid into the resource. -/
theorem Sys.putH (h : Sys B tz rz nm hv lv hs ls hc w) (hch : Chg hv.ownBlock.toList w w1) {hv' : Value} {hs' : List Hd} (hown : w1.ownsRow (B + 4) 88 4 hv' hs'.length (flat encH hs')) :
    Sys B tz rz nm hv' lv hs' ls hc (w1.setCell ⟨B + 3, 3, none⟩ hv') := by
  have hb : ∀ k, k < B + 4 → k ∉ hv.ownBlock.toList := by
    intro k hk hm
    rw [Option.mem_toList] at hm
    have := h.hlt hm
    omega
  refine ⟨(hch.row h.t (hb _ (by omega))).setOther (by simp) _, ((hch.row h.r (hb _ (by omega))).set 3 _).congr fun i _ => rRow_setH rz nm hv _ hc i, own_setCell hown _ _ (fun g hg => by have := hown.lt g hg; simp; omega), own_setCell (hch.own h.lo ?_) _ _ (fun g hg => by have := h.llt hg; simp; omega)⟩
  intro g hg hm
  rw [Option.mem_toList] at hm
  exact h.hl hm hg
theorem Sys.putL (h : Sys B tz rz nm hv lv hs ls hc w) (hch : Chg lv.ownBlock.toList w w1) {lv' : Value} {ls' : List Lk} (hown : w1.ownsRow (B + 4) 90 3 lv' ls'.length (flat encL ls')) :
    Sys B tz rz nm hv lv' hs ls' hc (w1.setCell ⟨B + 2, 5, none⟩ lv') := by
  have hb : ∀ k, k < B + 4 → k ∉ lv.ownBlock.toList := by
    intro k hk hm
    rw [Option.mem_toList] at hm
    have := h.llt hm
    omega
  refine ⟨((hch.row h.t (hb _ (by omega))).set 5 _).congr fun i _ => tRow_set tz lv _ i, (hch.row h.r (hb _ (by omega))).setOther (by simp) _, own_setCell (hch.own h.ho ?_) _ _ (fun g hg => by have := h.hlt hg; simp; omega), own_setCell hown _ _ (fun g hg => by have := hown.lt g hg; simp; omega)⟩
  intro g hg hm
  rw [Option.mem_toList] at hm
  exact h.hl hg hm

/-- A store into the transaction or the resource, or beside: what the Table and the lists say stays. -/
theorem Phase.keep {L : List Nat} {hv' lv' : Value} {hs' : List Hd} {ls' : List Lk} {hc' : Nat → Int} {N' : Int} (p : Phase B tz rz nm pol hv lv hs ls hc N w wr) (hch : Chg L wr w1) (hL : ∀ x ∈ L, x = B + 2 ∨ x = B + 3 ∨ hv.ownBlock = some x ∨ lv.ownBlock = some x)
    (hsys : Sys B tz rz nm hv' lv' hs' ls' hc' w1) (hh : ∀ x ∈ hs', x ∈ hs ∨ (B + 4 ≤ x.b ∧ TyAt w1 x.b 80)) (hl : ∀ x ∈ ls', x ∈ ls ∨ (B + 4 ≤ x.b ∧ TyAt w1 x.b 86)) (hN : ∀ j, 0 ≤ hc' j ∧ hc' j ≤ N') : Phase B tz rz nm pol hv' lv' hs' ls' hc' N' w w1 := by
  have ge : ∀ x ∈ L, B + 2 ≤ x := by
    intro x hx
    rcases hL x hx with h | h | h | h
    · omega
    · omega
    · have := p.sys.hlt h; omega
    · have := p.sys.llt h; omega
  have far : ∀ b, B + 4 ≤ b → (TyAt wr b 80 ∨ TyAt wr b 86) → b ∉ L := by
    intro b hb ht hm
    rcases hL b hm with h | h | h | h
    · omega
    · omega
    · rcases ht with ht | ht
      · exact ty_apart p.sys.ho ht (by decide) h
      · exact ty_apart p.sys.ho ht (by decide) h
    · rcases ht with ht | ht
      · exact ty_apart p.sys.lo ht (by decide) h
      · exact ty_apart p.sys.lo ht (by decide) h
  refine ⟨hsys, p.tab.chg hch (fun h => by have := ge _ h; omega) (fun h => by have := ge _ h; omega), ?_, ?_, hch.below p.bel (by have := p.size; omega) (fun k hk => by have := ge k hk; omega), Nat.le_trans p.size hch.size, hN⟩
  · intro x hx
    rcases hh x hx with h | h
    · have := p.gh x h
      exact ⟨this.1, this.2.chg hch (far _ this.1 (.inl this.2))⟩
    · exact h
  · intro x hx
    rcases hl x hx with h | h
    · have := p.gl x h
      exact ⟨this.1, this.2.chg hch (far _ this.1 (.inr this.2))⟩
    · exact h

/-- Nothing but new blocks. -/
theorem Phase.more (p : Phase B tz rz nm pol hv lv hs ls hc N w wr) (hch : Chg [] wr w1) : Phase B tz rz nm pol hv lv hs ls hc N w w1 :=
  p.keep hch (by simp) (p.sys.chg hch (by simp) (by simp) (by simp) (by simp)) (fun x hx => .inl hx) (fun x hx => .inl hx) p.cnt

theorem Phase.drew (p : Phase B tz rz nm pol hv lv hs ls hc N w wr) : Phase B tz rz nm pol hv lv hs ls hc N w wr.drew := p.more ((Chg.refl [] wr).drew)

/-- One holder more. -/
theorem Phase.pushH (p : Phase B tz rz nm pol hv lv hs ls hc N w wr) (hch : Chg hv.ownBlock.toList wr w1) {g' c' n : Nat} (hn : hs.length = n) {x : Hd} (hown : w1.ownsRow (B + 4) 88 4 (.slice (some ⟨g', 0, none⟩) (n + 1) c') (n + 1) (flat encH hs ++ encH x)) (hx : B + 4 ≤ x.b ∧ TyAt w1 x.b 80) :
    Phase B tz rz nm pol (.slice (some ⟨g', 0, none⟩) (n + 1) c') lv (hs ++ [x]) ls hc N w (w1.setCell ⟨B + 3, 3, none⟩ (.slice (some ⟨g', 0, none⟩) (n + 1) c')) := by
  have hch' : Chg ((B + 3) :: hv.ownBlock.toList) wr (w1.setCell ⟨B + 3, 3, none⟩ (.slice (some ⟨g', 0, none⟩) (n + 1) c')) := (hch.mono (L' := (B + 3) :: hv.ownBlock.toList) (fun k hk _ => List.mem_cons_of_mem _ hk)).setCell _ _ (by simp)
  refine p.keep hch' ?_ (p.sys.pushH hch hn hown) ?_ (fun y hy => .inl hy) p.cnt
  · intro y hy
    rcases List.mem_cons.1 hy with hy | hy
    · exact .inr (.inl hy)
    · rw [Option.mem_toList] at hy
      exact .inr (.inr (.inl hy))
  · intro y hy
    rcases List.mem_append.1 hy with hy | hy
    · exact .inl hy
    · rw [List.mem_singleton] at hy
      subst hy
      exact .inr ⟨hx.1, hx.2.setCell _ _⟩

theorem Phase.pushL (p : Phase B tz rz nm pol hv lv hs ls hc N w wr) (hch : Chg lv.ownBlock.toList wr w1) {g' c' n : Nat} (hn : ls.length = n) {x : Lk} (hown : w1.ownsRow (B + 4) 90 3 (.slice (some ⟨g', 0, none⟩) (n + 1) c') (n + 1) (flat encL ls ++ encL x)) (hx : B + 4 ≤ x.b ∧ TyAt w1 x.b 86) :
    Phase B tz rz nm pol hv (.slice (some ⟨g', 0, none⟩) (n + 1) c') hs (ls ++ [x]) hc N w (w1.setCell ⟨B + 2, 5, none⟩ (.slice (some ⟨g', 0, none⟩) (n + 1) c')) := by
  have hch' : Chg ((B + 2) :: lv.ownBlock.toList) wr (w1.setCell ⟨B + 2, 5, none⟩ (.slice (some ⟨g', 0, none⟩) (n + 1) c')) := (hch.mono (L' := (B + 2) :: lv.ownBlock.toList) (fun k hk _ => List.mem_cons_of_mem _ hk)).setCell _ _ (by simp)
  refine p.keep hch' ?_ (p.sys.pushL hch hn hown) (fun y hy => .inl hy) ?_ p.cnt
  · intro y hy
    rcases List.mem_cons.1 hy with hy | hy
    · exact .inl hy
    · rw [Option.mem_toList] at hy
      exact .inr (.inr (.inr hy))
  · intro y hy
    rcases List.mem_append.1 hy with hy | hy
    · exact .inl hy
    · rw [List.mem_singleton] at hy
      subst hy
      exact .inr ⟨hx.1, hx.2.setCell _ _⟩

/-- One count more. -/
theorem Phase.count (p : Phase B tz rz nm pol hv lv hs ls hc N w wr) {m : Nat} (hm : m < 4) : Phase B tz rz nm pol hv lv hs ls (upd hc m (hc m + 1)) (N + 1) w (wr.setCell ⟨B + 3, 8 + m, none⟩ (.int .i64 (hc m + 1))).drew := by
  have hch : Chg [B + 3] wr (wr.setCell ⟨B + 3, 8 + m, none⟩ (.int .i64 (hc m + 1))) := (Chg.refl _ wr).setCell _ _ (by simp)
  refine (p.keep hch (by simp) (p.sys.setC hm (hc m + 1)) (fun y hy => .inl hy) (fun y hy => .inl hy) ?_).drew
  intro j
  have := p.cnt j
  have := p.cnt m
  unfold upd
  split <;> omega
end

/-- The transaction as the law makes it. -/
abbrev tCells : Array Value := #[.nilIface, .string ⟨#[116]⟩, .int .u64 1, .int .u8 0, .bool false, .slice none 0 0, .pointer none, .int .u64 0, .int .u64 0, .int .i64 0, .int .u64 0, .pointer none, .int .i64 0, .pointer none, .int .i64 0, .int .u64 0]
/-- The resource as the law makes it. -/
abbrev rCells (nm : ByteArray) : Array Value := #[.string nm, .int .u64 0, .pointer none, .slice none 0 0, .pointer none, .pointer none, .int .i32 0, .int .i32 0, .int .i64 0, .int .i64 0, .int .i64 0, .int .i64 0, .int .i64 0, .int .i64 0, .int .i64 0, .int .i64 0, .int .i64 0, .int .i64 0, .int .i64 0, .int .i64 0, .pointer none]
def tz0 (i : Nat) : Value := tCells[i]?.getD undef
def rz0 (i : Nat) : Value := (rCells ⟨#[]⟩)[i]?.getD undef

theorem phase0 (w : World) (nm : ByteArray) (pol : Int) (tb : Array Value) (h0 : tb[0]? = some (.func (.func 7) #[] #[pt w.heap.size])) (h1 : tb[1]? = some (.int .u8 pol)) :
    Phase w.heap.size tz0 rz0 nm pol (.slice none 0 0) (.slice none 0 0) [] [] (fun _ => 0) 0 w ((((w.alloc (.cells #[.slice none 0 0] 38)).alloc (.cells tb 76)).alloc (.cells tCells 80)).alloc (.cells (rCells nm) 86)) := by
  have s1 : (w.alloc (.cells #[.slice none 0 0] 38)).heap.size = w.heap.size + 1 := by simp
  have s2 : ((w.alloc (.cells #[.slice none 0 0] 38)).alloc (.cells tb 76)).heap.size = w.heap.size + 2 := by simp
  have s3 : (((w.alloc (.cells #[.slice none 0 0] 38)).alloc (.cells tb 76)).alloc (.cells tCells 80)).heap.size = w.heap.size + 3 := by simp
  have t := World.rowIs_alloc ((w.alloc (.cells #[.slice none 0 0] 38)).alloc (.cells tb 76)) tCells 80 (tRow tz0 (.slice none 0 0)) (by
    intro i hi
    match i, hi with
    | 0, _ | 1, _ | 2, _ | 3, _ | 4, _ | 5, _ | 6, _ | 7, _ | 8, _ | 9, _ | 10, _ | 11, _ | 12, _ | 13, _ | 14, _ | 15, _ => rfl
    | k + 16, h => simp [tCells] at h; omega)
  have r := World.rowIs_alloc (((w.alloc (.cells #[.slice none 0 0] 38)).alloc (.cells tb 76)).alloc (.cells tCells 80)) (rCells nm) 86 (rRow rz0 nm (.slice none 0 0) (fun _ => 0)) (by
    intro i hi
    match i, hi with
    | 0, _ | 1, _ | 2, _ | 3, _ | 4, _ | 5, _ | 6, _ | 7, _ | 8, _ | 9, _ | 10, _ | 11, _ | 12, _ | 13, _ | 14, _ | 15, _ | 16, _ | 17, _ | 18, _ | 19, _ | 20, _ => rfl
    | k + 21, h => simp [rCells] at h; omega)
  have l := World.rowIs_alloc w #[.slice none 0 0] 38 (fun _ => .slice none 0 0) (by
    intro i hi
    match i, hi with
    | 0, _ => rfl)
  have b := heap_alloc_new (w.alloc (.cells #[.slice none 0 0] 38)) (.cells tb 76)
  rw [s2] at t
  rw [s3] at r
  rw [s1] at b
  have tc : ∀ i v, tb[i]? = some v → ((w.alloc (.cells #[.slice none 0 0] 38)).alloc (.cells tb 76)).cell? ⟨w.heap.size + 1, i, none⟩ = some v := by
    intro i v hv
    simp only [World.cell?, b]
    simpa using hv
  refine ⟨⟨t.alloc _, r, World.ownsRow_nil _ _ _ _, World.ownsRow_nil _ _ _ _⟩, ⟨?_, ?_, ((l.alloc _).alloc _).alloc _⟩, by simp, by simp, ?_, by simp, fun _ => by simp⟩
  · exact ((((Chg.refl [] _).alloc _).alloc _).cell (tc 0 _ h0) (by simp))
  · exact ((((Chg.refl [] _).alloc _).alloc _).cell (tc 1 _ h1) (by simp))
  · exact ((((Below.refl _ w).alloc (Nat.le_refl _) _).alloc (by omega) _).alloc (by omega) _).alloc (by omega) _

end Go.Proofs.Ybulkdkve.lawS5594CWhole

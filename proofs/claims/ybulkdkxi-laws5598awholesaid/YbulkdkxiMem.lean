import Derived.Test.YbulkdkxiEnv
/-! Plain laws on memory: what may have changed; a world of a sort with a state of its own. -/
namespace Go.Proofs.Ybulkdkxi.lawS5598AWhole
open Go.RowKit Go.Deep
open Go.Sort (swp)
set_option linter.unusedVariables false
set_option linter.unusedSimpArgs false

/-! ### What may have changed: the blocks of L, and new ones. -/
structure Chg (L : List Nat) (w w' : World) : Prop where
  os : w'.os = w.os
  tape : w'.tape = w.tape
  output : w'.output = w.output
  size : w.heap.size ≤ w'.heap.size
  block : ∀ k, k < w.heap.size → k ∉ L → w'.heap[k]? = w.heap[k]?

namespace Chg
variable {L L' : List Nat} {w w1 w2 : World}
theorem refl (L : List Nat) (w : World) : Chg L w w := ⟨rfl, rfl, rfl, Nat.le_refl _, fun _ _ _ => rfl⟩
theorem trans (h : Chg L w w1) (k : Chg L' w1 w2) : Chg (L ++ L') w w2 :=
  ⟨k.os.trans h.os, k.tape.trans h.tape, k.output.trans h.output, Nat.le_trans h.size k.size, fun i hi hn => by
    rw [List.mem_append, not_or] at hn
    exact (k.block i (Nat.lt_of_lt_of_le hi h.size) hn.2).trans (h.block i hi hn.1)⟩
theorem mono (h : Chg L w w1) (hs : ∀ k ∈ L, k < w.heap.size → k ∈ L') : Chg L' w w1 :=
  ⟨h.os, h.tape, h.output, h.size, fun k hk hn => h.block k hk (fun hm => hn (hs k hm hk))⟩
theorem step (h : Chg L w w1) (k : Chg L' w1 w2) (hs : ∀ x ∈ L', x < w.heap.size → x ∈ L) : Chg L w w2 :=
  (h.trans k).mono fun x hx hlt => by
    rcases List.mem_append.1 hx with hx | hx
    · exact hx
    · exact hs x hx hlt
theorem alloc (h : Chg L w w1) (o : Obj) : Chg L w (w1.alloc o) :=
  h.step (L' := []) ⟨rfl, rfl, rfl, by simp, fun k hk _ => blk_alloc_lt _ _ _ hk⟩ (by simp)
theorem drew (h : Chg L w w1) : Chg L w w1.drew := ⟨h.os, h.tape, h.output, h.size, h.block⟩
theorem drewN (h : Chg L w w1) (n : Nat) : Chg L w (w1.drewN n) := ⟨h.os, h.tape, h.output, h.size, h.block⟩
theorem setCell (h : Chg L w w1) (a : Addr) (v : Value) (ha : a.block < w.heap.size → a.block ∈ L) : Chg L w (w1.setCell a v) :=
  h.step (L' := [a.block]) ⟨rfl, rfl, rfl, by rw [nblk_setCell]; exact Nat.le_refl _, fun k hk hn => blk_setCell_other _ _ _ _ (by simpa using hn)⟩ (by
    intro x hx hlt
    rw [List.mem_singleton] at hx
    subst hx
    exact ha hlt)
theorem grown {row : Option Nat} (h : Chg L w w1) (hg : w1.grownBy w2 row) (hr : ∀ k, row = some k → k < w.heap.size → k ∈ L) : Chg L w w2 :=
  h.step (L' := row.toList) ⟨hg.os, hg.tape, hg.output, hg.size, fun k hk hn => hg.block k hk (fun e => hn (by rw [← e]; simp))⟩ (by
    intro x hx hlt
    cases row with
    | none => simp at hx
    | some r =>
      simp at hx
      subst hx
      exact hr _ rfl hlt)
theorem row {b t n : Nat} {f : Nat → Value} (h : Chg L w w1) (hr : w.rowIs b t n f) (hb : b ∉ L) : w1.rowIs b t n f := hr.of_block (h.block b hr.lt hb)
theorem below {B : Nat} {w0 : World} (h : Chg L w w1) (hb : Below B w0 w) (hB : B ≤ w.heap.size) (hL : ∀ k ∈ L, B ≤ k) : Below B w0 w1 :=
  hb.trans ⟨h.os, h.tape, h.output, h.size, fun k hk => h.block k (by omega) (fun hm => by have := hL k hm; omega)⟩
theorem own {base : Nat} {e : TypeId} {s : Nat} {v : Value} {n : Nat} {xs : List Value} (h : Chg L w w1) (ho : w.ownsRow base e s v n xs) (hb : ∀ g, v.ownBlock = some g → g ∉ L) : w1.ownsRow base e s v n xs := by
  refine ⟨ho.1, ?_⟩
  rcases ho.2 with h2 | ⟨g, cap, cur, rfl, hbg, hg, r⟩
  · exact .inl h2
  · refine .inr ⟨g, cap, cur, rfl, hbg, ?_, r⟩
    rw [h.block g (by rcases Nat.lt_or_ge g w.heap.size with hlt | hge; exact hlt; rw [Array.getElem?_eq_none hge] at hg; cases hg) (hb g rfl)]
    exact hg
theorem cell (h : Chg L w w1) {a : Addr} {v : Value} (hc : w.cell? a = some v) (ha : a.block ∉ L) : w1.cell? a = some v := by
  have hlt : a.block < w.heap.size := by
    rcases Nat.lt_or_ge a.block w.heap.size with hlt | hge
    · exact hlt
    · simp [World.cell?, Array.getElem?_eq_none hge] at hc
  rw [World.cell?_of_block (w := w) (h.block _ hlt ha)]
  exact hc
end Chg


/-- A sort's worlds, and what the test keeps for itself: 'Own w c': block c is the test's. -/
structure Base (N blk n : Nat) (Own : World → Nat → Prop) (S : Array Int → World → Prop) : Prop where
  env : Env blk n S
  alloc : ∀ {d w}, S d w → ∀ o, S d (w.alloc o)
  low : ∀ {d w}, S d w → N ≤ w.heap.size
  lt : ∀ {d w}, S d w → blk < w.heap.size
  set : ∀ {d w}, S d w → ∀ c, N ≤ c → c ≠ blk → ¬ Own w c → ∀ v, S d (w.setCell ⟨c, 0, none⟩ v)
  ownAlloc : ∀ {d w}, S d w → ∀ o c, Own (w.alloc o) c → Own w c
  ownDrew : ∀ {d w}, S d w → ∀ k c, Own (w.drewN k) c → Own w c
  ownSet : ∀ (w : World) (a : Addr) v c, ¬ Own w a.block → Own (w.setCell a v) c → Own w c
  ownLt : ∀ {d w}, S d w → ∀ c, Own w c → c < w.heap.size
  ownBlk : ∀ {d w}, S d w → ¬ Own w blk

/-- The sort's worlds with one block more, which is nobody else's. -/
def Priv (N blk : Nat) (Own : World → Nat → Prop) (S : Array Int → World → Prop) (c t : Nat) (G : Value → Prop) (d : Array Int) (w : World) : Prop :=
  S d w ∧ N ≤ c ∧ c ≠ blk ∧ ¬ Own w c ∧ ∃ v, G v ∧ w.rowIs c t 1 (fun _ => v)

theorem row_set1 {w : World} {c t : Nat} {f : Nat → Value} (h : w.rowIs c t 1 f) (v : Value) : (w.setCell ⟨c, 0, none⟩ v).rowIs c t 1 (fun _ => v) :=
  (h.set 0 v).congr fun i hi => by rw [if_pos (by omega)]

section
variable {N blk n : Nat} {Own : World → Nat → Prop} {S : Array Int → World → Prop}
theorem Base.priv (B : Base N blk n Own S) (c t : Nat) (G : Value → Prop) : Env blk n (Priv N blk Own S c t G) where
  size h := B.env.size h.1
  cell h := B.env.cell h.1
  frz h := B.env.frz h.1
  drewN h k := by
    obtain ⟨h1, h2, h3, h4, v, hv, h5⟩ := h
    exact ⟨B.env.drewN h1 k, h2, h3, fun ho => h4 (B.ownDrew h1 k c ho), v, hv, h5⟩
  swap {d w} h i j hi hj := by
    obtain ⟨h1, h2, h3, h4, v, hv, h5⟩ := h
    refine ⟨B.env.swap h1 i j hi hj, h2, h3, fun ho => h4 ?_, v, hv, (h5.setOther (by exact h3) _).setOther (by exact h3) _⟩
    have hb := B.ownBlk h1
    have hb2 : ¬ Own (w.setCell ⟨blk, i, none⟩ (uV d[j]!)) blk := fun ho => hb (B.ownSet _ _ _ _ (by exact hb) ho)
    exact B.ownSet _ _ _ _ (by exact hb) (B.ownSet _ _ _ _ (by exact hb2) ho)
  
theorem Base.privNew (B : Base N blk n Own S) {d : Array Int} {w : World} (h : S d w) (t : Nat) (G : Value → Prop) (v : Value) (hv : G v) : Priv N blk Own S w.heap.size t G d (w.alloc (.cells #[v] t)) := by
  refine ⟨B.alloc h _, B.low h, fun e => ?_, fun ho => ?_, v, hv, World.rowIs_alloc w #[v] t (fun _ => v) (by intro i hi; simp at hi; subst hi; rfl)⟩
  · have := B.lt h; omega
  · have := B.ownLt h _ (B.ownAlloc h _ _ ho); omega

theorem Base.privSet (B : Base N blk n Own S) {c t : Nat} {G : Value → Prop} {d : Array Int} {w : World} (h : Priv N blk Own S c t G d w) (v : Value) (hv : G v) : Priv N blk Own S c t G d (w.setCell ⟨c, 0, none⟩ v) := by
  obtain ⟨h1, h2, h3, h4, u, hu, h5⟩ := h
  exact ⟨B.set h1 c h2 h3 h4 v, h2, h3, fun ho => h4 (B.ownSet _ _ _ _ (by exact h4) ho), v, hv, row_set1 h5 v⟩

theorem Base.rnd (B : Base N blk n Own S) : RndOk blk n S := fun d w v hv h => by
  refine ⟨Priv N blk Own S w.heap.size 69 (fun x => ∃ s : Nat, s < 18446744073709551616 ∧ x = .int .u64 s), B.priv _ _ _, ⟨fun hT => ?_, fun hT => ?_, fun hT s hs => ?_⟩, B.privNew h 69 _ _ ⟨v, hv, rfl⟩, fun d' w' hT => hT.1⟩
  · obtain ⟨_, _, _, _, x, ⟨s, hs, rfl⟩, h5⟩ := hT
    exact ⟨s, hs, h5.cell (by omega)⟩
  · obtain ⟨_, _, _, _, x, _, h5⟩ := hT
    exact h5.frozen 0
  · exact B.privSet hT _ ⟨s, hs, rfl⟩

theorem Base.ctr (B : Base N blk n Own S) {d : Array Int} {w : World} (h : S d w) :
    Env blk n (Priv N blk Own S w.heap.size 3 (fun x => ∃ s : Int, x = .int .i64 s)) ∧ Ctr w.heap.size (Priv N blk Own S w.heap.size 3 (fun x => ∃ s : Int, x = .int .i64 s)) ∧
    Priv N blk Own S w.heap.size 3 (fun x => ∃ s : Int, x = .int .i64 s) d (w.alloc (.cells #[.int .i64 0] 3)) := by
  refine ⟨B.priv _ _ _, ⟨fun hT => ?_, fun hT => ?_, fun hT s => ?_⟩, B.privNew h 3 _ _ ⟨0, rfl⟩⟩
  · obtain ⟨_, _, _, _, x, ⟨s, rfl⟩, h5⟩ := hT
    exact ⟨s, h5.cell (by omega)⟩
  · obtain ⟨_, _, _, _, x, _, h5⟩ := hT
    exact h5.frozen 0
  · exact B.privSet hT _ ⟨s, rfl⟩

/-- What a test may do: its own blocks, new blocks; what is nobody's stays nobody's. -/
structure Mild (blk : Nat) (Own : World → Nat → Prop) (w w' : World) : Prop where
  keep : ∀ c, c < w.heap.size → c ≠ blk → ¬ Own w c → w'.heap[c]? = w.heap[c]? ∧ ¬ Own w' c

theorem Mild.priv {c t : Nat} {G : Value → Prop} {d : Array Int} {w w' : World} (M : Mild blk Own w w') (h : Priv N blk Own S c t G d w) (hS : S d w') : Priv N blk Own S c t G d w' := by
  obtain ⟨h1, h2, h3, h4, v, hv, h5⟩ := h
  obtain ⟨e1, e2⟩ := M.keep c h5.lt h3 h4
  exact ⟨hS, h2, h3, e2, v, hv, h5.of_block e1⟩
end

/-- The test of the one family, and that it is mild. -/
structure CmpB (N blk n ob db : Nat) (Own : World → Nat → Prop) (cf : Int → Int → Int) (S : Nat → Array Int → World → Prop) : Prop where
  base : ∀ t, Base N blk n Own (S t)
  call : ∀ (t : Nat) (d : Array Int) (w : World), S t d w → ∀ i j, i < n → j < n → 0 < t → Calls Yba.prog 16 #[uV d[i]!, uV d[j]!, pt ob, pt db] w fun e w' => e = .returned (.int .i64 (cf d[i]! d[j]!)) ∧ S (t - 1) d w' ∧ Mild blk Own w w'
  mono : ∀ {t t' : Nat} {d : Array Int} {w : World}, S t d w → t' ≤ t → S t' d w

section
variable {N blk n ob db : Nat} {Own : World → Nat → Prop} {cf : Int → Int → Int} {S : Nat → Array Int → World → Prop}
theorem CmpB.ok (B : CmpB N blk n ob db Own cf S) : CmpOk n ob db cf S where
  call t d w h i j hi hj ht := (B.call t d w h i j hi hj ht).mono fun e w' ⟨h1, h2, _⟩ => ⟨h1, h2⟩
  mono := B.mono
theorem CmpB.priv (B : CmpB N blk n ob db Own cf S) (c t : Nat) (G : Value → Prop) : CmpOk n ob db cf (fun q => Priv N blk Own (S q) c t G) where
  call q d w h i j hi hj ht := (B.call q d w h.1 i j hi hj ht).mono fun e w' ⟨h1, h2, h3⟩ => ⟨h1, by
    obtain ⟨g1, g2, g3, g4, v, hv, g5⟩ := h
    obtain ⟨e1, e2⟩ := h3.keep c g5.lt g3 g4
    exact ⟨h2, g2, g3, e2, v, hv, g5.of_block e1⟩⟩
  mono h ht := ⟨B.mono h.1 ht, h.2⟩
end

end Go.Proofs.Ybulkdkxi.lawS5598AWhole

import Derived.Test.YbulkdkveCFirst0
import Derived.Deep.RegionWith
namespace Go.Proofs.Ybulkdkve.lawS5594CWhole
open Go.RowKit Go.Deep
set_option linter.unusedVariables false
set_option linter.unusedSimpArgs false

/-- The event that the grant reports. -/
def evCells (T : Nat) (nm : ByteArray) (m : Int) : List Value := [.int .u8 1, pt T, .string nm, .string ⟨#[]⟩, .int .u8 m, .slice none 0 0, .int .u8 0, .int .u8 0, .pointer none, .int .i64 0, .int .u64 0]
theorem evCells_one (T : Nat) (nm : ByteArray) (m : Int) : ∀ u ∈ evCells T nm m, u.oneCell' = true := by
  intro u hu
  simp [evCells] at hu
  rcases hu with rfl | rfl | rfl | rfl | rfl | rfl | rfl | rfl | rfl | rfl <;> rfl
theorem info47 : (Yba.prog.info? 47).map (fun i => (i.zero, i.size, i.bytes)) = some (some (.agg #[.int .u8 0, .pointer none, .string ⟨#[]⟩, .string ⟨#[]⟩, .int .u8 0, .slice none 0 0, .int .u8 0, .int .u8 0, .pointer none, .int .i64 0, .int .u64 0]), 11, 112) := by kernel_rfl

set_option maxRecDepth 100000 in
set_option maxHeartbeats 2000000 in
/-- The handler: it logs the event. -/
theorem handle7 (B T : Nat) (nm : ByteArray) (m : Int) (w : World) (hB : B + 4 ≤ w.heap.size) (hl : w.rowIs B 38 1 (fun _ => .slice none 0 0)) :
    Calls Yba.prog 7 #[.agg #[.int .u8 1, pt T, .string nm, .string ⟨#[]⟩, .int .u8 m, .slice none 0 0, .int .u8 0, .int .u8 0, .pointer none, .int .i64 0, .int .u64 0], pt B] w fun e w' => e = .returned (.tuple #[]) ∧
      ∃ g c, w'.rowIs B 38 1 (fun _ => .slice (some ⟨g, 0, none⟩) 1 c) ∧ w'.ownsRow (B + 4) 47 11 (.slice (some ⟨g, 0, none⟩) 1 c) 1 (evCells T nm m) ∧ Chg [B] w w' := by
  obtain ⟨i0, hi, hz0, hz1, hz2⟩ := info_parts info47
  have c0 : ∀ o, (w.alloc o).cell? ⟨B, 0, none⟩ = some (.slice none 0 0) := fun o => (hl.alloc o).cell (i := 0) (by omega)
  have n0 : ∀ o o', ((w.alloc o).alloc o').ownsRow (B + 4) 47 11 (.slice none 0 0) 0 [] := fun o o' => World.ownsRow_nil _ _ _ _
  have hnb : Hid (∀ o1 o2, ((w.alloc o1).alloc o2).heap[w.heap.size + 1]? = some o2) := fun o1 o2 => by have := heap_alloc_new (w.alloc o1) o2; simpa using this
  go_enter Yba.func7, Yba.ntmps7
  go_wp2_with (at_builtin; go_must (refine wpList_append_lies _ rfl (.tmp 3) (.tmp 5) 38 rfl (B + 4) 47 i0 _ 11 112 Yba.underlying38 hi hz0 hz1 hz2 rfl (by decide) _ 0 [] rfl (World.ownsRow_nil _ _ _ _) ⟨w.heap.size + 1, 0, none⟩ 1 1 (evCells T nm m) rfl rfl (World.news_of_block (by exact hnb.out _ _)) (evCells_one T nm m) (by decide) (by unfold maxLen; omega) (by omega) (by simp; omega) _ rfl ?_))
  intro g c w1 hown hgrow hat hlt
  have hch : Chg [] w w1 := (((Chg.refl [] w).alloc _).alloc _).grown hgrow (by intro k hk; simp [Value.ownBlock] at hk)
  have hr := hch.row hl (by simp)
  have k0 := hr.cell (i := 0) (by omega)
  have f0 := hr.frozen 0
  have HX : Hid (w1.ownsRow (B + 4) 47 11 (.slice (some ⟨g, 0, none⟩) 1 c) 1 (evCells T nm m) ∧ w1.rowIs B 38 1 (fun _ => .slice none 0 0) ∧ Chg [] w w1) := ⟨by simpa using hown, hr, hch⟩
  clear hown hgrow hr hch hat
  go_wp2_with fail
  go_end0
  obtain ⟨h1, h2, h3⟩ := HX.out
  refine ⟨rfl, _, _, (h2.set 0 _).congr (fun i hi => by simp [show i = 0 by omega]), own_setCell h1 _ _ (fun g' hg' => by have := h1.lt g' hg'; simp; omega), (h3.mono (by simp)).setCell _ _ (by simp)⟩

section
variable {B : Nat} {tz rz : Nat → Value} {nm : ByteArray} {hv lv : Value} {hs : List Hd} {ls : List Lk} {hc : Nat → Int} {w : World}

theorem order_yes {gl cl k : Nat} {x : Lk} (h : Sys B tz rz nm hv (.slice (some ⟨gl, 0, none⟩) (k + 1) cl) hs (ls ++ [x]) hc w) (hk : ls.length = k) (hkb : k ≤ 100000) :
    Calls Yba.prog 21 #[pt (B + 2), .bool true] w fun e w' => e = .returned (.tuple #[]) ∧ Sys B tz rz nm hv (.slice (some ⟨gl, 0, none⟩) (k + 1) cl) hs (ls ++ [⟨x.b, x.h, k⟩]) hc w' ∧ Chg [gl] w w' := by
  have hlen : (ls ++ [x]).length = k + 1 := by simp [hk]
  have hlt := h.llt (g := gl) rfl
  have hp : k < (ls ++ [x]).length := by omega
  have hx : (ls ++ [x])[k] = x := by simp [hk]
  have d2 := h.lcell hlen hp (show 2 < 3 by omega)
  rw [hx] at d2
  refine (order_last (B + 2) gl k cl w hkb (by omega) x.u h.c5 d2 (h.lfro hlen)).mono ?_
  rintro e w' ⟨rfl, rfl⟩
  have h1 := h.setUp hlen hp (k : Int)
  rw [hx] at h1
  have e1 : (ls ++ [x]).set k ⟨x.b, x.h, (k : Int)⟩ = ls ++ [⟨x.b, x.h, (k : Int)⟩] := by rw [← hk]; simp
  rw [e1] at h1
  exact ⟨rfl, h1, (Chg.refl [gl] w).setCell _ _ (by simp)⟩

theorem order_no {gl cl k : Nat} {x : Lk} (h : Sys B tz rz nm hv (.slice (some ⟨gl, 0, none⟩) (k + 1 + 1) cl) hs (ls ++ [x]) hc w) (hk : ls.length = k + 1) (hkb : k ≤ 100000) :
    Calls Yba.prog 21 #[pt (B + 2), .bool false] w fun e w' => e = .returned (.tuple #[]) ∧ Sys B tz rz nm hv (.slice (some ⟨gl, 0, none⟩) (k + 1 + 1) cl) hs (ls ++ [⟨x.b, x.h, (ls[k]'(by omega)).u⟩]) hc w' ∧ Chg [gl] w w' := by
  have hlen : (ls ++ [x]).length = k + 1 + 1 := by simp [hk]
  have hlt := h.llt (g := gl) rfl
  have hp : k + 1 < (ls ++ [x]).length := by omega
  have hx : (ls ++ [x])[k + 1] = x := by simp [hk]
  have hy : (ls ++ [x])[k]'(by omega) = ls[k]'(by omega) := by rw [List.getElem_append_left (by omega)]
  have d2 := h.lcell hlen hp (show 2 < 3 by omega)
  rw [hx] at d2
  have d3 := h.lcell hlen (p := k) (by omega) (show 2 < 3 by omega)
  rw [hy] at d3
  refine (order_not (B + 2) gl k cl w hkb (by omega) x.u (ls[k]'(by omega)).u h.c5 d2 d3 (h.lfro hlen)).mono ?_
  rintro e w' ⟨rfl, rfl⟩
  have h1 := h.setUp hlen hp ((k : Int) + 1)
  rw [hx] at h1
  have e1 : ∀ u : Int, (ls ++ [x]).set (k + 1) ⟨x.b, x.h, u⟩ = ls ++ [⟨x.b, x.h, u⟩] := fun u => by rw [← hk]; simp
  rw [e1] at h1
  have hlen2 : (ls ++ [(⟨x.b, x.h, (k : Int) + 1⟩ : Lk)]).length = k + 1 + 1 := by simp [hk]
  have h2 := h1.setUp hlen2 (p := k + 1) (by omega) (ls[k]'(by omega)).u
  have hx2 : (ls ++ [(⟨x.b, x.h, (k : Int) + 1⟩ : Lk)])[k + 1]'(by omega) = ⟨x.b, x.h, (k : Int) + 1⟩ := by simp [hk]
  rw [hx2] at h2
  have e2 : (ls ++ [(⟨x.b, x.h, (k : Int) + 1⟩ : Lk)]).set (k + 1) ⟨x.b, x.h, (ls[k]'(by omega)).u⟩ = ls ++ [⟨x.b, x.h, (ls[k]'(by omega)).u⟩] := by rw [← hk]; simp
  simp only at h2
  rw [e2] at h2
  exact ⟨rfl, h2, ((Chg.refl [gl] w).setCell _ _ (by simp)).setCell _ _ (by simp)⟩

theorem Chg.ofDrew {L : List Nat} {w w2 : World} (h : Chg L w.drew w2) : Chg L w w2 := ⟨h.os, h.tape, h.output, h.size, h.block⟩

/-- Behind the grant. -/
def Done (B : Nat) (tz rz : Nat → Value) (nm : ByteArray) (hv lv : Value) (hs' : List Hd) (ls' : List Lk) (hc' : Nat → Int) (m : Int) (w w' : World) : Prop :=
  ∃ g' c' gl' cl' gL cL, Sys B tz rz nm (.slice (some ⟨g', 0, none⟩) hs'.length c') (.slice (some ⟨gl', 0, none⟩) ls'.length cl') hs' ls' hc' w' ∧
    w'.rowIs B 38 1 (fun _ => .slice (some ⟨gL, 0, none⟩) 1 cL) ∧ w'.ownsRow (B + 4) 47 11 (.slice (some ⟨gL, 0, none⟩) 1 cL) 1 (evCells (B + 2) nm m) ∧
    Chg (B :: (B + 2) :: (B + 3) :: (hv.ownBlock.toList ++ lv.ownBlock.toList)) w w' ∧ (hv.ownBlock = some g' ∨ w.heap.size ≤ g') ∧ (lv.ownBlock = some gl' ∨ w.heap.size ≤ gl')

/-- The Table's own cells that the grant reads. -/
structure Tab (B : Nat) (pol : Int) (w : World) : Prop where
  c0 : w.cell? ⟨B + 1, 0, none⟩ = some (.func (.func 7) #[] #[pt B])
  c1 : w.cell? ⟨B + 1, 1, none⟩ = some (.int .u8 pol)
  l : w.rowIs B 38 1 (fun _ => .slice none 0 0)
theorem Tab.chg {pol : Int} {L : List Nat} {w' : World} (h : Tab B pol w) (hch : Chg L w w') (h0 : B ∉ L) (h1 : B + 1 ∉ L) : Tab B pol w' :=
  ⟨hch.cell h.c0 h1, hch.cell h.c1 h1, hch.row h.l h0⟩

theorem Done.of {hs' : List Hd} {ls' : List Lk} {hc' : Nat → Int} {m : Int} {w1 w2 : World} {g' c' gl' cl' gL cL : Nat} (h : Sys B tz rz nm (.slice (some ⟨g', 0, none⟩) hs'.length c') (.slice (some ⟨gl', 0, none⟩) ls'.length cl') hs' ls' hc' w1)
    (hch : Chg ((B + 2) :: (B + 3) :: (hv.ownBlock.toList ++ lv.ownBlock.toList)) w w1) (hm1 : hv.ownBlock = some g' ∨ w.heap.size ≤ g') (hm2 : lv.ownBlock = some gl' ∨ w.heap.size ≤ gl')
    (hr : w2.rowIs B 38 1 (fun _ => .slice (some ⟨gL, 0, none⟩) 1 cL)) (ho : w2.ownsRow (B + 4) 47 11 (.slice (some ⟨gL, 0, none⟩) 1 cL) 1 (evCells (B + 2) nm m)) (hch2 : Chg [B] w1 w2) : Done B tz rz nm hv lv hs' ls' hc' m w w2 := by
  refine ⟨g', c', gl', cl', gL, cL, h.chg hch2 (by simp) (by simp) ?_ ?_, hr, ho, (hch.trans hch2).mono ?_, hm1, hm2⟩
  · intro g hg hm
    have := h.hlt hg
    simp at hm
    omega
  · intro g hg hm
    have := h.llt hg
    simp at hm
    omega
  · intro x hx _
    simp only [List.mem_append, List.mem_cons, List.not_mem_nil, or_false] at hx ⊢
    rcases hx with (hx | hx | hx | hx) | hx
    · exact .inr (.inl hx)
    · exact .inr (.inr (.inl hx))
    · exact .inr (.inr (.inr (.inl hx)))
    · exact .inr (.inr (.inr (.inr hx)))
    · exact .inl hx

set_option maxRecDepth 100000 in
set_option maxHeartbeats 2000000 in
/-- Table.grant, a promotion. -/
theorem tgrant_promote {pol : Int} {cl0 : Bool} {g n c gl k cl p q f m : Nat} (h : Sys B tz rz nm (.slice (some ⟨g, 0, none⟩) n c) (.slice (some ⟨gl, 0, none⟩) k cl) hs ls hc w) (hT : Tab B pol w) (hB : B + 4 ≤ w.heap.size) (hn : hs.length = n) (hk : ls.length = k) (hnb : n ≤ 100001) (hkb : k ≤ 100001)
    (hp : p < n) (hq : q < k) (hqb : (ls[q]'(by omega)).b = B + 3) (hqh : (ls[q]'(by omega)).h = (p : Int)) (hql : ∀ j (hj : j < q), (ls[j]'(by omega)).b ≠ B + 3) (hpb : (hs[p]'(by omega)).b = B + 2) (hpl : ∀ j (hj : j < p), (hs[j]'(by omega)).b ≠ B + 2)
    (hlL : ∀ x ∈ ls, Lies w x.b) (hlH : ∀ x ∈ hs, Lies w x.b) (hf0 : 0 < f) (hf : f < 4) (hm : m < 4) (hx : (hs[p]'(by omega)).m = (f : Int)) (x : Hd) (hxe : hs[p]'(by omega) = x) (hb : ∀ j, -1000 ≤ hc j ∧ hc j ≤ 900000) :
    Calls Yba.prog 12 #[pt (B + 1), pt (B + 2), pt (B + 3), .int .u8 f, .int .u8 m, .bool cl0] w fun e w' => e = .returned (.tuple #[]) ∧
      Done B tz rz nm (.slice (some ⟨g, 0, none⟩) n c) (.slice (some ⟨gl, 0, none⟩) k cl) (hs.set p ⟨x.b, m, x.l⟩) ls (upd (upd hc f (hc f - 1)) m (upd hc f (hc f - 1) m + 1)) m w w' := by
  have hfz : ((f : Int) != 0) = true := by simp; omega
  have hg := h.hlt (g := g) rfl
  go_enter Yba.func12, Yba.ntmps12
  go_wp2_with fail
  refine (grant_promote h hn hk hnb hkb hp hq hqb hqh hql hpb hpl hlL hlH hf0 hf hm hx x hxe hb).mono ?_
  rintro e w1 ⟨rfl, h1, hch1⟩
  have c11 := h1.c11
  have c0 := h1.c0
  have hT1 := hT.chg hch1 (by simp; omega) (by simp; omega)
  have t0 := hT1.c0
  have hB1 : B + 4 ≤ w1.heap.size := Nat.le_trans hB hch1.size
  have hB1' := hB1
  clear hxe hx hpb hpl hqb hqh hql hlL hlH
  go_wp2_with fail
  refine (promoted (B + 2) _ _ _ (by exact c11)).mono ?_
  rintro e w2 ⟨rfl, hw2⟩
  rw [hw2]
  clear hw2 w2
  go_wp2_with fail
  go_region_with (go_at_call 7; refine (handle7 B (B + 2) nm (m : Int) _ (by exact hB1) (by exact hT1.l)).mono ?_; rintro e w3 ⟨rfl, gL, cL, hr3, ho3, hch3⟩)
  all_goals
    go_wp2_with fail
    go_end0
    refine ⟨rfl, ?_⟩
    refine Done.of (by rw [List.length_set, hn, hk]; exact h1) (hch1.mono ?_) (.inl rfl) (.inl rfl) hr3 ho3 hch3.ofDrew
    intro x hx _
    simp [Value.ownBlock] at hx ⊢
    omega

/-- Behind resource.grant, a first lock. -/
def Granted (B : Nat) (tz rz : Nat → Value) (nm : ByteArray) (hv lv : Value) (hs : List Hd) (ls : List Lk) (hc : Nat → Int) (m : Nat) (w w' : World) : Prop :=
  ∃ g' c' gl' cl', Sys B tz rz nm (.slice (some ⟨g', 0, none⟩) (hs.length + 1) c') (.slice (some ⟨gl', 0, none⟩) (ls.length + 1) cl') (hs ++ [⟨B + 2, m, ls.length⟩]) (ls ++ [⟨B + 3, hs.length, 0⟩]) (upd hc m (hc m + 1)) w' ∧
    Chg ((B + 2) :: (B + 3) :: (hv.ownBlock.toList ++ lv.ownBlock.toList)) w w' ∧ (hv.ownBlock = some g' ∨ w.heap.size ≤ g') ∧ (lv.ownBlock = some gl' ∨ w.heap.size ≤ gl')

theorem grant_any {ao al : Option Addr} {n c k cl m : Nat} (h : Sys B tz rz nm (.slice ao n c) (.slice al k cl) hs ls hc w) (hn : hs.length = n) (hk : ls.length = k) (hnb : n ≤ 100001) (hkb : k ≤ 100001) (hm : m < 4) (hB : B + 4 ≤ w.heap.size)
    (hb : ∀ j, -1000 ≤ hc j ∧ hc j ≤ 900000) :
    Calls Yba.prog 19 #[pt (B + 3), pt (B + 2), .int .u8 0, .int .u8 m] w fun e w' => e = .returned (.int .i64 k) ∧ Granted B tz rz nm (.slice ao n c) (.slice al k cl) hs ls hc m w w' := by
  rcases h.lo.2 with ⟨he, h0⟩ | ⟨gl, cap, cur, he, _⟩
  · injection he with e1 e2 e3
    subst e1
    subst e2
    subst e3
    have hls : ls = [] := List.eq_nil_of_length_eq_zero hk
    subst hls
    refine (grant_first_nil h hn hnb hm hB hb).mono ?_
    rintro e w' ⟨rfl, g', c', gl', cl', h1, h2, h3, h4⟩
    refine ⟨rfl, g', c', gl', cl', ?_, h2.mono ?_, h3, .inr h4⟩
    · rw [hn]
      exact h1
    · intro x hx _
      simpa [Value.ownBlock] using hx
  · injection he with e1 e2 e3
    subst e1
    subst e3
    refine (grant_first h hn hk hnb hkb hm hB hb).mono ?_
    rintro e w' ⟨rfl, g', c', gl', cl', h1, h2, h3, h4⟩
    refine ⟨rfl, g', c', gl', cl', ?_, h2.mono ?_, h3, ?_⟩
    · rw [hn, hk]
      exact h1
    · intro x hx _
      simp only [List.mem_append, List.mem_cons, List.not_mem_nil, or_false, Value.ownBlock, Option.toList_some, Option.mem_toList] at hx ⊢
      rcases hx with (hx | hx | hx) | hx
      · exact .inl hx
      · exact .inr (.inl hx)
      · exact .inr (.inr (.inr hx))
      · exact .inr (.inr (.inl hx))
    · rcases h4 with h4 | h4
      · exact .inl (by rw [h4]; rfl)
      · exact .inr h4

/-- What the grant sets lastUpTo to. -/
def upTo (pol : Int) (cl0 : Bool) (ls : List Lk) : Int := if pol = 6 then (if cl0 then (ls.length : Int) else (ls.getD (ls.length - 1) ⟨0, 0, 0⟩).u) else 0

set_option maxRecDepth 100000 in
set_option maxHeartbeats 2000000 in
/-- Table.grant, a first lock, under another policy than Ordered. -/
theorem tgrant_other {pol : Int} {cl0 : Bool} {ao al : Option Addr} {n c k cl m : Nat} (h : Sys B tz rz nm (.slice ao n c) (.slice al k cl) hs ls hc w) (hT : Tab B pol w) (hpol : (pol == 6) = false) (hn : hs.length = n) (hk : ls.length = k) (hnb : n ≤ 100001) (hkb : k ≤ 100001) (hm : m < 4) (hB : B + 4 ≤ w.heap.size)
    (hb : ∀ j, -1000 ≤ hc j ∧ hc j ≤ 900000) :
    Calls Yba.prog 12 #[pt (B + 1), pt (B + 2), pt (B + 3), .int .u8 0, .int .u8 m, .bool cl0] w fun e w' => e = .returned (.tuple #[]) ∧
      Done B tz rz nm (.slice ao n c) (.slice al k cl) (hs ++ [⟨B + 2, m, k⟩]) (ls ++ [⟨B + 3, n, 0⟩]) (upd hc m (hc m + 1)) m w w' := by
  have hLB : ∀ x, x < B + 2 → x ∉ (B + 2) :: (B + 3) :: ((Value.slice ao n c).ownBlock.toList ++ (Value.slice al k cl).ownBlock.toList) := by
    intro x hx hm
    simp only [List.mem_cons, List.mem_append, Option.mem_toList] at hm
    rcases hm with hm | hm | hm | hm
    · omega
    · omega
    · have := h.hlt hm; omega
    · have := h.llt hm; omega
  have HL : Hid (∀ x, x < B + 2 → x ∉ (B + 2) :: (B + 3) :: ((Value.slice ao n c).ownBlock.toList ++ (Value.slice al k cl).ownBlock.toList)) := hLB
  clear hLB
  go_enter Yba.func12, Yba.ntmps12
  go_wp2_with fail
  refine (grant_any h hn hk hnb hkb hm hB hb).mono ?_
  rintro e w1 ⟨rfl, g', c', gl', cl', h1, hch1, hm1, hm2⟩
  have c0 := h1.c0
  have hT1 := hT.chg hch1 (HL.out _ (by omega)) (HL.out _ (by omega))
  have t0 := hT1.c0
  have t1 := hT1.c1
  have hB1 : B + 4 ≤ w1.heap.size := Nat.le_trans hB hch1.size
  have HX : Hid (Chg ((B + 2) :: (B + 3) :: ((Value.slice ao n c).ownBlock.toList ++ (Value.slice al k cl).ownBlock.toList)) w w1 ∧ ((Value.slice ao n c).ownBlock = some g' ∨ w.heap.size ≤ g') ∧ ((Value.slice al k cl).ownBlock = some gl' ∨ w.heap.size ≤ gl')) := ⟨hch1, hm1, hm2⟩
  clear hch1 hm1 hm2 hT
  go_wp2_with fail
  go_region_with (go_at_call 7; refine (handle7 B (B + 2) nm (m : Int) _ (by exact hB1) (by exact hT1.l)).mono ?_; rintro e w3 ⟨rfl, gL, cL, hr3, ho3, hch3⟩)
  all_goals
    go_wp2_with fail
    go_end0
    refine ⟨rfl, ?_⟩
    obtain ⟨hch1, hm1, hm2⟩ := HX.out
    refine Done.of (by rw [List.length_append, List.length_append, ← hn, ← hk]; exact h1) hch1 hm1 hm2 hr3 ho3 hch3.ofDrew

set_option maxRecDepth 100000 in
set_option maxHeartbeats 2000000 in
/-- .. under Ordered. -/
theorem tgrant_ordered {cl0 : Bool} {ao al : Option Addr} {n c k cl m : Nat} (h : Sys B tz rz nm (.slice ao n c) (.slice al k cl) hs ls hc w) (hT : Tab B 6 w) (hn : hs.length = n) (hk : ls.length = k) (hnb : n ≤ 100001) (hkb : k ≤ 100000) (hm : m < 4) (hB : B + 4 ≤ w.heap.size)
    (hb : ∀ j, -1000 ≤ hc j ∧ hc j ≤ 900000) (hcl : cl0 = false → 0 < k) (E : Int) (hE : E = upTo 6 cl0 ls) :
    Calls Yba.prog 12 #[pt (B + 1), pt (B + 2), pt (B + 3), .int .u8 0, .int .u8 m, .bool cl0] w fun e w' => e = .returned (.tuple #[]) ∧
      Done B tz rz nm (.slice ao n c) (.slice al k cl) (hs ++ [⟨B + 2, m, k⟩]) (ls ++ [⟨B + 3, n, E⟩]) (upd hc m (hc m + 1)) m w w' := by
  have hLB : ∀ x, x < B + 2 → x ∉ (B + 2) :: (B + 3) :: ((Value.slice ao n c).ownBlock.toList ++ (Value.slice al k cl).ownBlock.toList) := by
    intro x hx hm
    simp only [List.mem_cons, List.mem_append, Option.mem_toList] at hm
    rcases hm with hm | hm | hm | hm
    · omega
    · omega
    · have := h.hlt hm; omega
    · have := h.llt hm; omega
  have HL : Hid (∀ x, x < B + 2 → x ∉ (B + 2) :: (B + 3) :: ((Value.slice ao n c).ownBlock.toList ++ (Value.slice al k cl).ownBlock.toList)) := hLB
  have HE : Hid (E = upTo 6 cl0 ls) := hE
  clear hLB hE
  go_enter Yba.func12, Yba.ntmps12
  go_wp2_with fail
  refine (grant_any h hn hk hnb (by omega) hm hB hb).mono ?_
  rintro e w1 ⟨rfl, g', c', gl', cl', h1, hch1, hm1, hm2⟩
  have hT1 := hT.chg hch1 (HL.out _ (by omega)) (HL.out _ (by omega))
  have t1 := hT1.c1
  have hB1 : B + 4 ≤ w1.heap.size := Nat.le_trans hB hch1.size
  have hord : Calls Yba.prog 21 #[pt (B + 2), .bool cl0] w1 fun e w' => e = .returned (.tuple #[]) ∧ Sys B tz rz nm (.slice (some ⟨g', 0, none⟩) (hs.length + 1) c') (.slice (some ⟨gl', 0, none⟩) (ls.length + 1) cl') (hs ++ [⟨B + 2, m, ls.length⟩]) (ls ++ [⟨B + 3, hs.length, E⟩]) (upd hc m (hc m + 1)) w' ∧ Chg [gl'] w1 w' := by
    cases cl0 with
    | true =>
      refine (order_yes (k := ls.length) h1 rfl (by omega)).mono ?_
      rintro e w' ⟨rfl, h2, h3⟩
      refine ⟨rfl, ?_, h3⟩
      rw [HE.out]
      simpa [upTo] using h2
    | false =>
      have hk0 := hcl rfl
      obtain ⟨k', hk'⟩ : ∃ k', ls.length = k' + 1 := ⟨ls.length - 1, by omega⟩
      rw [hk'] at h1
      refine (order_no (k := k') h1 hk' (by omega)).mono ?_
      rintro e w' ⟨rfl, h2, h3⟩
      refine ⟨rfl, ?_, h3⟩
      rw [HE.out, hk']
      have : upTo 6 false ls = (ls[k']'(by omega)).u := by
        simp only [upTo, if_true, Bool.false_eq_true, if_false, hk', Nat.add_sub_cancel]
        rw [List.getD_eq_getElem?_getD, List.getElem?_eq_getElem (by omega)]
        rfl
      rw [this]
      exact h2
  have HX : Hid (Chg ((B + 2) :: (B + 3) :: ((Value.slice ao n c).ownBlock.toList ++ (Value.slice al k cl).ownBlock.toList)) w w1 ∧ ((Value.slice ao n c).ownBlock = some g' ∨ w.heap.size ≤ g') ∧ ((Value.slice al k cl).ownBlock = some gl' ∨ w.heap.size ≤ gl')) := ⟨hch1, hm1, hm2⟩
  have HO : Hid (Calls Yba.prog 21 #[pt (B + 2), .bool cl0] w1 fun e w' => e = .returned (.tuple #[]) ∧ Sys B tz rz nm (.slice (some ⟨g', 0, none⟩) (hs.length + 1) c') (.slice (some ⟨gl', 0, none⟩) (ls.length + 1) cl') (hs ++ [⟨B + 2, m, ls.length⟩]) (ls ++ [⟨B + 3, hs.length, E⟩]) (upd hc m (hc m + 1)) w' ∧ Chg [gl'] w1 w') := hord
  have hgl := h1.llt (g := gl') rfl
  clear hch1 hm1 hm2 hT hord h1 h
  go_wp2_with fail
  refine HO.out.mono ?_
  rintro e w2 ⟨rfl, h2, hch2⟩
  have c0 := h2.c0
  have hT2 := hT1.chg hch2 (by simp; omega) (by simp; omega)
  have t0 := hT2.c0
  have hB2 : B + 4 ≤ w2.heap.size := Nat.le_trans hB1 hch2.size
  clear HO hT1 t1 hB1
  go_wp2_with fail
  go_region_with (go_at_call 7; refine (handle7 B (B + 2) nm (m : Int) _ (by exact hB2) (by exact hT2.l)).mono ?_; rintro e w3 ⟨rfl, gL, cL, hr3, ho3, hch3⟩)
  all_goals
    go_wp2_with fail
    go_end0
    refine ⟨rfl, ?_⟩
    obtain ⟨hch1, hm1, hm2⟩ := HX.out
    refine Done.of (by rw [List.length_append, List.length_append, ← hn, ← hk]; exact h2) ((hch1.trans hch2).mono ?_) hm1 hm2 hr3 ho3 hch3.ofDrew
    intro x hx hlt
    rcases List.mem_append.1 hx with hx | hx
    · exact hx
    · simp at hx
      subst hx
      rcases hm2 with hm2 | hm2
      · simp only [List.mem_cons, List.mem_append, Option.mem_toList]
        exact .inr (.inr (.inr hm2))
      · omega
end
end Go.Proofs.Ybulkdkve.lawS5594CWhole

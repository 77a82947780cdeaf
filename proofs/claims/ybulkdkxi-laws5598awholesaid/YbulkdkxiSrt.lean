import Derived.Test.YbulkdkxiTopO
import Derived.Laws.Tables
import Derived.Laws.BytesArg
import Derived.LaidEqlPtr
/-! slices.Clone, slices.Sort, slices.BinarySearch at rows of uint32 of the law's own. -/
namespace Go.Proofs.Ybulkdkxi.lawS5598AWhole
open Go.RowKit Go.Deep Go.Shelf
open Go.Sort (swp size_swp)
set_option linter.unusedVariables false
set_option linter.unusedSimpArgs false

/-! ### A row that holds an array -/
/-- Block b is a row of m cells, of which the first n hold d. -/
def RowA (b m n : Nat) (d : Array Int) (w : World) : Prop := d.size = n ∧ n ≤ m ∧ ∃ f, w.rowIs b 23 m f ∧ ∀ i, i < n → f i = uV d[i]!

namespace RowA
variable {b m n : Nat} {d : Array Int} {w w' : World}
theorem cell (h : RowA b m n d w) (i : Nat) (hi : i < n) : w.cell? ⟨b, i, none⟩ = some (uV d[i]!) := by
  obtain ⟨_, h2, f, h3, h4⟩ := h
  rw [h3.cell (Nat.lt_of_lt_of_le hi h2), h4 i hi]
theorem frz (h : RowA b m n d w) (i : Nat) : w.frozen? ⟨b, i, none⟩ = false := by
  obtain ⟨_, h2, f, h3, h4⟩ := h
  exact h3.frozen i
theorem lt (h : RowA b m n d w) : b < w.heap.size := by
  obtain ⟨_, h2, f, h3, h4⟩ := h
  exact h3.lt
theorem of_block (h : RowA b m n d w) (e : w'.heap[b]? = w.heap[b]?) : RowA b m n d w' := by
  obtain ⟨h1, h2, f, h3, h4⟩ := h
  exact ⟨h1, h2, f, h3.of_block e, h4⟩
theorem drewN (h : RowA b m n d w) (k : Nat) : RowA b m n d (w.drewN k) := h
theorem alloc (h : RowA b m n d w) (o : Obj) : RowA b m n d (w.alloc o) := h.of_block (blk_alloc_lt _ _ _ h.lt)
theorem other (h : RowA b m n d w) (a : Addr) (ha : b ≠ a.block) (v : Value) : RowA b m n d (w.setCell a v) := h.of_block (blk_setCell_other _ _ _ _ ha)
theorem chg {L : List Nat} (h : RowA b m n d w) (hc : Chg L w w') (hb : b ∉ L) : RowA b m n d w' := h.of_block (hc.block b h.lt hb)
theorem put (h : RowA b m n d w) (i : Nat) (hi : i < n) (x : Int) : RowA b m n (d.setIfInBounds i x) (w.setCell ⟨b, i, none⟩ (uV x)) := by
  obtain ⟨h1, h2, f, h3, h4⟩ := h
  refine ⟨by simpa using h1, h2, _, h3.set i (uV x), fun t ht => ?_⟩
  by_cases e : t = i
  · subst e
    rw [if_pos rfl]
    simp [Array.getElem!_eq_getD, Array.getD, h1, ht]
  · rw [if_neg e, h4 t ht]
    congr 1
    simp only [Array.getElem!_eq_getD, Array.getD, Array.size_setIfInBounds]
    split
    · rw [Array.getInternal_eq_getElem, Array.getInternal_eq_getElem, Array.getElem_setIfInBounds_ne _ (by omega)]
    · rfl
theorem swap (h : RowA b m n d w) (i j : Nat) (hi : i < n) (hj : j < n) : RowA b m n (swp d i j) ((w.setCell ⟨b, i, none⟩ (uV d[j]!)).setCell ⟨b, j, none⟩ (uV d[i]!)) := (h.put i hi _).put j hj _
end RowA

/-- The worlds of slices.Sort over a row. -/
def SO (w0 : World) (b m n : Nat) (d : Array Int) (w : World) : Prop := Chg [b] w0 w ∧ RowA b m n d w

theorem SO.base (w0 : World) (b m n : Nat) : Base w0.heap.size b n (fun _ _ => False) (SO w0 b m n) where
  env := {
    size := fun h => h.2.1
    cell := fun h => h.2.cell
    frz := fun h i _ => h.2.frz i
    drewN := fun h k => ⟨h.1.drewN k, h.2.drewN k⟩
    swap := fun h i j hi hj => ⟨(h.1.setCell _ _ (fun _ => by simp)).setCell _ _ (fun _ => by simp), h.2.swap i j hi hj⟩ }
  alloc h o := ⟨h.1.alloc o, h.2.alloc o⟩
  low h := h.1.size
  lt h := h.2.lt
  set h c h1 h2 _ v := ⟨h.1.setCell _ _ (fun hlt => by simp at hlt; omega), h.2.other _ (by exact fun e => h2 e.symm) v⟩
  ownAlloc _ _ _ h := h
  ownDrew _ _ _ h := h
  ownSet _ _ _ _ _ h := h
  ownLt _ _ h := h.elim
  ownBlk _ h := h

def ltU (x y : Int) : Bool := decide (x < y)
theorem swoU : Sort.SWO ltU where
  irrefl x := by simp [ltU]
  trans x y z h1 h2 := by simp only [ltU, decide_eq_true_eq] at *; omega
  ntrans x y z h1 h2 := by simp only [ltU, decide_eq_false_iff_not] at *; omega

theorem less_any {n : Nat} {T : Array Int → World → Prop} (hd : ∀ d w k, T d w → T d (w.drewN k)) : LessOk n ltU T where
  call d w h i j hi hj := (less_y _ _ w).mono fun e w' ⟨he, k, hw⟩ => ⟨he, by rw [hw]; exact hd d w k h⟩

theorem srt_y {cap : Nat} (w : World) (b m n : Nat) (d : Array Int) (hn : n ≤ 4096) (h : RowA b m n d w) :
    Calls Yba.prog 11 #[.slice (some ⟨b, 0, none⟩) n cap] w fun e w' => ∃ d', e = .returned (.tuple #[]) ∧ Sort.PermIn 0 n d d' ∧ Sort.SortedIn ltU 0 n d' ∧ Chg [b] w w' ∧ RowA b m n d' w' := by
  have B := SO.base w b m n
  refine (sort_o (cap := cap) B.env (less_any fun d w k h => B.env.drewN h k) ?_ B.rnd swoU hn d w ⟨Chg.refl _ w, h⟩).mono ?_
  · intro d w h
    obtain ⟨e1, e2, e3⟩ := B.ctr h
    exact ⟨_, e1, less_any fun d w k h => e1.drewN h k, e2, e3, fun d' w' hT => hT.1⟩
  · rintro e w' ⟨d', rfl, hp, hs, h1, h2⟩
    exact ⟨d', rfl, hp, hs, h1, h2⟩

/-! ### slices.Clone -/
def bl (V : Nat → Int) (n : Nat) : List Value := (List.range n).map fun i => uV (V i)
theorem bl_len (V : Nat → Int) (n : Nat) : (bl V n).length = n := by simp [bl]
theorem bl_get (V : Nat → Int) {n i : Nat} (h : i < n) : (bl V n)[i]? = some (uV (V i)) := by simp [bl, h]
theorem bl_one (V : Nat → Int) (n : Nat) : ∀ u ∈ bl V n, u.oneCell' = true := by
  intro u hu
  simp only [bl, List.mem_map] at hu
  obtain ⟨i, _, rfl⟩ := hu
  rfl
theorem bl_cell {w : World} {V : Nat → Int} {n : Nat} {ad : Addr} (h : ∀ i, i < n → w.cell? (ad.add i) = some (uV (V i))) : ∀ j u, (bl V n)[j]? = some u → w.cell? (ad.add j) = some u := by
  intro j u hu
  have hj : j < n := by
    rcases Nat.lt_or_ge j n with h | h
    · exact h
    · rw [List.getElem?_eq_none (by rw [bl_len]; exact h)] at hu; cases hu
  rw [bl_get V hj] at hu
  rw [h j hj, hu]
theorem info23 : (Yba.prog.info? 23).map (fun i => (i.zero, i.size, i.bytes)) = some (some (.int .u32 0), 1, 4) := by kernel_rfl

set_option maxRecDepth 100000 in
set_option maxHeartbeats 1000000 in
theorem clone_nil (w : World) : Calls Yba.prog 10 #[.slice none 0 0] w fun e w' => e = .returned (.slice none 0 0) ∧ w' = w := by
  have hnl := fun (w : World) (a : Option Addr) (n c : Nat) => Lib.run_eql_slice_nil (P := Yba.prog) w 22 23 a n c 0 0 Yba.underlying22
  go_enter Yba.func10, Yba.ntmps10
  go_wp2_with fail
  go_ret
  exact ⟨rfl, rfl⟩

set_option maxRecDepth 100000 in
set_option maxHeartbeats 1000000 in
theorem clone_zero (x : Addr) (c : Nat) (w : World) : Calls Yba.prog 10 #[.slice (some x) 0 c] w fun e w' => e = .returned (.slice (some ⟨w.heap.size, 0, none⟩) 0 0) ∧ w' = w.alloc (.cells #[] 23) := by
  have hnl := fun (w : World) (a : Option Addr) (n c : Nat) => Lib.run_eql_slice_nil (P := Yba.prog) w 22 23 a n c 0 0 Yba.underlying22
  go_enter Yba.func10, Yba.ntmps10
  go_wp2_with fail
  go_ret
  exact ⟨rfl, rfl⟩

set_option maxRecDepth 100000 in
set_option maxHeartbeats 1000000 in
theorem clone_some (x : Addr) (n c : Nat) (D : Nat → Int) (w : World) (hn : 0 < n) (hb : n ≤ 100000) (hx : ∀ i, i < n → w.cell? (x.add i) = some (uV (D i))) :
    Calls Yba.prog 10 #[.slice (some x) n c] w fun e w' => ∃ g' c', e = .returned (.slice (some ⟨g', 0, none⟩) n c') ∧ w'.ownsRow w.heap.size 23 1 (.slice (some ⟨g', 0, none⟩) n c') n (bl D n) ∧ Chg [] w w' := by
  have hnl := fun (w : World) (a : Option Addr) (n c : Nat) => Lib.run_eql_slice_nil (P := Yba.prog) w 22 23 a n c 0 0 Yba.underlying22
  obtain ⟨i0, hi, hz0, hz1, hz2⟩ := info_parts info23
  have hown : Hid ((w.alloc (.cells #[] 23)).ownsRow w.heap.size 23 1 (.slice (some ⟨w.heap.size, 0, none⟩) 0 0) 0 []) :=
    ⟨rfl, .inr ⟨w.heap.size, 0, #[], rfl, Nat.le_refl _, heap_alloc_new w _, Nat.le_refl _, Nat.zero_le _, rfl, rfl⟩⟩
  have hnew : Hid (∀ j u, (bl D n)[j]? = some u → (w.alloc (.cells #[] 23)).cell? (x.add j) = some u) := bl_cell fun i hi => ((Chg.refl [] w).alloc _).cell (hx i hi) (by simp)
  clear hx
  go_enter Yba.func10, Yba.ntmps10
  go_wp2_with (at_builtin; go_must (refine wpList_append_lies _ rfl (.tmp 5) (.tmp 6) 22 rfl w.heap.size 23 i0 _ 1 4 Yba.underlying22 hi hz0 hz1 hz2 rfl (by decide) _ 0 [] rfl hown.out x n c (bl D n) rfl (by rw [bl_len]; omega) hnew.out (bl_one D n) hn (by unfold maxLen; omega) (by omega) (by simp) _ rfl ?_))
  intro g' c' w1 hown1 hgrow1 hat1 hlt1
  have hch : Chg [] w w1 := (((Chg.refl [] w).alloc (.cells #[] 23)).grown hgrow1 (by intro b hb hlt; simp [Value.ownBlock] at hb; omega))
  clear hgrow1 hat1 hlt1 hown hnew
  go_wp2_with fail
  go_ret
  exact ⟨g', c', by simp, by simpa using hown1, hch⟩

theorem own_rowA {w : World} {base g n c : Nat} {d : Array Int} (hd : d.size = n) (h : w.ownsRow base 23 1 (.slice (some ⟨g, 0, none⟩) n c) n (bl (fun i => d[i]!) n)) : RowA g c n d w ∧ base ≤ g := by
  obtain ⟨_, h | ⟨g', cap, cur, hv, hb, hh, hnc, hm, hs, ht⟩⟩ := h
  · simp at h
  · injection hv with hv _ hc
    injection hv with hv
    injection hv with hv
    subst hv
    subst hc
    refine ⟨⟨hd, hnc, fun i => (cur[i]?).getD default, ⟨cur, hh, by omega, fun i hi => ?_⟩, fun i hi => ?_⟩, hb⟩
    · have hlt : i < cur.size := by omega
      show _ = some ((cur[i]?).getD default)
      rw [Array.getElem?_eq_getElem hlt]
      rfl
    · have h1 : (cur.toList.take (n * 1))[i]? = some (uV d[i]!) := by rw [ht]; exact bl_get _ hi
      rw [List.getElem?_take_of_lt (by omega), Array.getElem?_toList] at h1
      show (cur[i]?).getD default = _
      rw [h1]
      rfl

theorem clone_y (x : Addr) (n c : Nat) (d : Array Int) (w : World) (hd : d.size = n) (hb : n ≤ 4096) (hx : ∀ i, i < n → w.cell? (x.add i) = some (uV d[i]!)) :
    Calls Yba.prog 10 #[.slice (some x) n c] w fun e w' => ∃ g c', e = .returned (.slice (some ⟨g, 0, none⟩) n c') ∧ RowA g c' n d w' ∧ w.heap.size ≤ g ∧ Chg [] w w' := by
  by_cases hn : n = 0
  · subst hn
    refine (clone_zero x c w).mono ?_
    rintro e w' ⟨rfl, rfl⟩
    exact ⟨w.heap.size, 0, rfl, ⟨hd, Nat.le_refl _, fun _ => default, World.rowIs_alloc w #[] 23 _ (by simp), fun i hi => by omega⟩, Nat.le_refl _, (Chg.refl [] w).alloc _⟩
  · refine (clone_some x n c (fun i => d[i]!) w (by omega) (by omega) hx).mono ?_
    rintro e w' ⟨g, c', rfl, hown, hch⟩
    obtain ⟨h1, h2⟩ := own_rowA hd hown
    exact ⟨g, c', rfl, h1, h2, hch⟩

/-! ### slices.BinarySearch -/
set_option maxRecDepth 100000 in
set_option maxHeartbeats 1000000 in
theorem isNaN21 (x : Int) (w : World) : Calls Yba.prog 21 #[uV x] w fun e w' => e = .returned (.bool false) ∧ w' = w := by
  go_enter Yba.func21, Yba.ntmps21
  go_wp2_with fail
  go_ret
  exact ⟨rfl, rfl⟩

set_option maxRecDepth 100000 in
set_option maxHeartbeats 4000000 in
theorem find_y {cap : Nat} (b m n : Nat) (d : Array Int) (t : Int) (p : Nat) (w : World) (hn : n ≤ 4096) (h : RowA b m n d w) (hs : Sort.SortedIn ltU 0 n d) (hp : p < n) (ht : d[p]! = t) :
    Calls Yba.prog 12 #[.slice (some ⟨b, 0, none⟩) n cap, uV t] w fun e w' => ∃ i : Nat, e = .returned (.tuple #[.int .i64 i, .bool true]) ∧ Chg [] w w' := by
  have mixed := mixedY
  have HR := hid_mk h
  have HS : Hid (∀ i j, i ≤ j → j < n → d[i]! ≤ d[j]!) := fun i j hij hj => by
    rcases Nat.lt_or_ge i j with hlt | hge
    · have := hs i j (Nat.zero_le _) hlt hj
      simp only [ltU, decide_eq_false_iff_not] at this
      omega
    · have : i = j := by omega
      subst this
      exact Int.le_refl _
  have HT := hid_mk ht
  clear h hs ht
  go_enter Yba.func12, Yba.ntmps12
  go_wp2_with fail
  go_loopg [7, 8] n (fun kx s1 s2 wr => ∃ lo hi : Nat, s1 = .int .i64 lo ∧ s2 = .int .i64 hi ∧ lo ≤ hi ∧ hi ≤ n ∧ hi - lo ≤ kx ∧ Chg [] w wr ∧ Hid (∀ i, i < lo → d[i]! < t) ∧ Hid (∀ i, hi ≤ i → i < n → t ≤ d[i]!))
  case atStart => exact ⟨0, n, rfl, rfl, Nat.zero_le _, Nat.le_refl _, by omega, Chg.refl [] w, fun i hi => by omega, fun i h1 h2 => by omega⟩
  case round =>
    obtain ⟨lo, hi, rfl, rfl, hlh, hin, hg, hch, H1, H2⟩ := hrel
    by_cases hlt : lo < hi
    · have hfit : (lo + hi) / 2 < n := by omega
      have hcast : ((lo : Int) + (hi : Int)) / 2 = (((lo + hi) / 2 : Nat) : Int) := by omega
      have hm1 : lo ≤ (lo + hi) / 2 := by omega
      have hm2 : (lo + hi) / 2 < hi := by omega
      generalize (lo + hi) / 2 = mid at *
      have cm := (HR.out.chg hch (by simp)).cell mid hfit
      obtain ⟨x, hx⟩ : ∃ x, x = d[mid]! := ⟨_, rfl⟩
      rw [← hx] at cm
      have HX := hid_mk hx
      clear hx
      have hfz : (mid : Int) < (n : Int) := by omega
      have hltz : (lo : Int) < (hi : Int) := by omega
      by_cases hxt : x < t
      · go_wp2_with (first | (go_at_call 20; refine (less_y _ _ _).mono ?_; rintro e w' ⟨rfl, k, rfl⟩))
        go_roundg (hi - (mid + 1))
        case measure => omega
        case rel => exact ⟨mid + 1, hi, by go_num, rfl, by omega, hin, Nat.le_refl _, hch.drewN k, fun i hi' => Int.lt_of_le_of_lt (HS.out i mid (by omega) hfit) (by rw [← HX.out]; exact hxt), H2⟩
      · go_wp2_with (first | (go_at_call 20; refine (less_y _ _ _).mono ?_; rintro e w' ⟨rfl, k, rfl⟩))
        go_roundg (mid - lo)
        case measure => omega
        case rel => exact ⟨lo, mid, rfl, rfl, hm1, by omega, Nat.le_refl _, hch.drewN k, H1, fun i h1 h2 => Int.le_trans (by rw [← HX.out]; omega) (HS.out mid i h1 h2)⟩
    · obtain rfl : hi = lo := by omega
      have hlp : hi ≤ p := by
        rcases Nat.lt_or_ge p hi with h1 | h1
        · have := H1.out p h1
          rw [HT.out] at this
          omega
        · exact h1
      have hlo : hi < n := by omega
      have e1 : d[hi]! = t := by
        have q1 := H2.out hi (Nat.le_refl _) hlo
        have q2 := HS.out hi p hlp hp
        rw [HT.out] at q2
        omega
      have cm := (HR.out.chg hch (by simp)).cell hi hlo
      rw [e1] at cm
      have hni : decide ((hi : Int) < (n : Int)) = true := decide_eq_true (by omega)
      have hnz : (hi : Int) < (n : Int) := by omega
      clear e1
      go_wp2_with (first | (go_at_call 21; refine (isNaN21 _ _).mono ?_; rintro e w' ⟨rfl, rfl⟩))
      go_ret2
      exact ⟨hi, rfl, hch⟩

end Go.Proofs.Ybulkdkxi.lawS5598AWhole

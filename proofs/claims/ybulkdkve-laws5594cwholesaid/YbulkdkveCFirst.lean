import Derived.Test.YbulkdkveCGrant
namespace Go.Proofs.Ybulkdkve.lawS5594CWhole
open Go.RowKit Go.Deep
set_option linter.unusedVariables false
set_option linter.unusedSimpArgs false

section
variable {B : Nat} {tz rz : Nat → Value} {nm : ByteArray} {hv lv : Value} {hs : List Hd} {ls : List Lk} {hc : Nat → Int} {w w1 : World}

theorem Sys.pushH (h : Sys B tz rz nm hv lv hs ls hc w) (hch : Chg hv.ownBlock.toList w w1) {g' c' n : Nat} (hn : hs.length = n) {x : Hd} (hown : w1.ownsRow (B + 4) 88 4 (.slice (some ⟨g', 0, none⟩) (n + 1) c') (n + 1) (flat encH hs ++ encH x)) :
    Sys B tz rz nm (.slice (some ⟨g', 0, none⟩) (n + 1) c') lv (hs ++ [x]) ls hc (w1.setCell ⟨B + 3, 3, none⟩ (.slice (some ⟨g', 0, none⟩) (n + 1) c')) := by
  have hb : ∀ k, k < B + 4 → k ∉ hv.ownBlock.toList := by
    intro k hk hm
    rw [Option.mem_toList] at hm
    have := h.hlt hm
    omega
  refine ⟨(hch.row h.t (hb _ (by omega))).setOther (by simp) _, ((hch.row h.r (hb _ (by omega))).set 3 _).congr fun i _ => rRow_setH rz nm hv _ hc i, ?_, own_setCell (hch.own h.lo ?_) _ _ (fun g hg => by have := h.llt hg; simp; omega)⟩
  · rw [List.length_append, List.length_singleton, hn, flat_append, flat_one]
    exact own_setCell hown _ _ (fun g hg => by have := hown.lt g hg; simp; omega)
  · intro g hg hm
    rw [Option.mem_toList] at hm
    exact h.hl hm hg

theorem Sys.pushL (h : Sys B tz rz nm hv lv hs ls hc w) (hch : Chg lv.ownBlock.toList w w1) {g' c' n : Nat} (hn : ls.length = n) {x : Lk} (hown : w1.ownsRow (B + 4) 90 3 (.slice (some ⟨g', 0, none⟩) (n + 1) c') (n + 1) (flat encL ls ++ encL x)) :
    Sys B tz rz nm hv (.slice (some ⟨g', 0, none⟩) (n + 1) c') hs (ls ++ [x]) hc (w1.setCell ⟨B + 2, 5, none⟩ (.slice (some ⟨g', 0, none⟩) (n + 1) c')) := by
  have hb : ∀ k, k < B + 4 → k ∉ lv.ownBlock.toList := by
    intro k hk hm
    rw [Option.mem_toList] at hm
    have := h.llt hm
    omega
  refine ⟨((hch.row h.t (hb _ (by omega))).set 5 _).congr fun i _ => tRow_set tz lv _ i, (hch.row h.r (hb _ (by omega))).setOther (by simp) _, own_setCell (hch.own h.ho ?_) _ _ (fun g hg => by have := h.hlt hg; simp; omega), ?_⟩
  · intro g hg hm
    rw [Option.mem_toList] at hm
    exact h.hl hg hm
  · rw [List.length_append, List.length_singleton, hn, flat_append, flat_one]
    exact own_setCell hown _ _ (fun g hg => by have := hown.lt g hg; simp; omega)

/-- 't.locks = make([]heldLock, 0, 8)'. -/
theorem Sys.makeL (h : Sys B tz rz nm hv (.slice none 0 0) hs [] hc w) (hB : B + 4 ≤ w.heap.size) (cs : Array Value) (hcs : cs.size = 8 * 3) :
    Sys B tz rz nm hv (.slice (some ⟨w.heap.size, 0, none⟩) 0 8) hs [] hc ((w.alloc (.cells cs 90)).setCell ⟨B + 2, 5, none⟩ (.slice (some ⟨w.heap.size, 0, none⟩) 0 8)) := by
  refine ⟨((h.t.alloc _).set 5 _).congr fun i _ => tRow_set tz _ _ i, (h.r.alloc _).setOther (by simp) _, own_setCell (h.ho.alloc _) _ _ (fun g hg => by have := h.hlt hg; simp; omega), own_setCell (World.ownsRow_made w cs 8 hB (by unfold maxLen; omega) hcs) _ _ (fun g hg => by simp [Value.ownBlock] at hg; simp; omega)⟩

theorem chg_grown {v : Value} (w : World) (o : Obj) {w2 : World} (hg : (w.alloc o).drew.grownBy w2 v.ownBlock) : Chg v.ownBlock.toList w w2 :=
  (((Chg.refl _ w).alloc o).drew).grown hg (by intro k hk _; rw [Option.mem_toList]; exact hk)
theorem Sys.r3 (h : Sys B tz rz nm hv lv hs ls hc w) (hch : Chg hv.ownBlock.toList w w1) : w1.cell? ⟨B + 3, 3, none⟩ = some hv ∧ w1.frozen? ⟨B + 3, 3, none⟩ = false := by
  have hr := hch.row h.r (by
    intro hm
    rw [Option.mem_toList] at hm
    have := h.hlt hm
    omega)
  exact ⟨hr.cell (i := 3) (by omega), hr.frozen 3⟩
theorem Sys.t5 (h : Sys B tz rz nm hv lv hs ls hc w) (hch : Chg lv.ownBlock.toList w w1) : w1.cell? ⟨B + 2, 5, none⟩ = some lv ∧ w1.frozen? ⟨B + 2, 5, none⟩ = false := by
  have hr := hch.row h.t (by
    intro hm
    rw [Option.mem_toList] at hm
    have := h.llt hm
    omega)
  exact ⟨hr.cell (i := 5) (by omega), hr.frozen 5⟩

/-- The slice has stayed in its row, or lies in a new one. -/
def Moved (w : World) (v v' : Value) : Prop := ∀ g, v'.ownBlock = some g → v.ownBlock = some g ∨ w.heap.size ≤ g

set_option maxRecDepth 100000 in
set_option maxHeartbeats 4000000 in
/-- resource.grant, a first lock; the transaction holds some already. -/
theorem grant_first {ao : Option Addr} {n c gl k cl m : Nat} (h : Sys B tz rz nm (.slice ao n c) (.slice (some ⟨gl, 0, none⟩) k cl) hs ls hc w) (hn : hs.length = n) (hk : ls.length = k) (hnb : n ≤ 100001) (hkb : k ≤ 100001) (hm : m < 4) (hB : B + 4 ≤ w.heap.size)
    (hb : ∀ j, -1000 ≤ hc j ∧ hc j ≤ 900000) :
    Calls Yba.prog 19 #[pt (B + 3), pt (B + 2), .int .u8 0, .int .u8 m] w fun e w' => e = .returned (.int .i64 k) ∧ ∃ g' c' gl' cl',
      Sys B tz rz nm (.slice (some ⟨g', 0, none⟩) (n + 1) c') (.slice (some ⟨gl', 0, none⟩) (k + 1) cl') (hs ++ [⟨B + 2, m, k⟩]) (ls ++ [⟨B + 3, n, 0⟩]) (upd hc m (hc m + 1)) w' ∧ Chg ([B + 2, B + 3, gl] ++ (Value.slice ao n c).ownBlock.toList) w w' ∧ ((Value.slice ao n c).ownBlock = some g' ∨ w.heap.size ≤ g') ∧ (gl' = gl ∨ w.heap.size ≤ gl') := by
  obtain ⟨i0, hi, hz0, hz1, hz2⟩ := info_parts info88
  obtain ⟨j0, ji, jz0, jz1, jz2⟩ := info_parts info90
  have hnl := fun (w : World) (a : Option Addr) (n c : Nat) => Lib.run_eql_slice_nil (P := Yba.prog) w 77 90 a n c 0 0 Yba.underlying77
  have cm := h.cnt hm
  have fR := h.r.frozen
  have bm := hb m
  obtain ⟨bm1, bm2⟩ := bm
  have h1 := (h.setC hm (hc m + 1)).drew
  have hwn : IntKind.i64.wrap (n : Int) = n := by rw [IntKind.wrap_i64]; omega
  have hchw : Chg [B + 3] w (w.setCell ⟨B + 3, 8 + m, none⟩ (.int .i64 (hc m + 1))).drew := ((Chg.refl _ w).setCell _ _ (by simp)).drew
  have s1 : ((w.setCell ⟨B + 3, 8 + m, none⟩ (.int .i64 (hc m + 1))).drew).heap.size = w.heap.size := by simp [World.setCell]
  go_enter Yba.func19, Yba.ntmps19
  go_wp2_with fail
  go_region
  generalize (w.setCell ⟨B + 3, 8 + m, none⟩ (.int .i64 (hc m + 1))).drew = W1 at *
  clear cm fR
  have c3 := h1.c3
  have c5 := h1.c5
  have c3a : ∀ o, (W1.alloc o).cell? ⟨B + 3, 3, none⟩ = some (.slice ao n c) := fun o => (h1.r.alloc o).cell (i := 3) (by omega)
  have c5a : ∀ o, (W1.alloc o).cell? ⟨B + 2, 5, none⟩ = some (.slice (some ⟨gl, 0, none⟩) k cl) := fun o => (h1.t.alloc o).cell (i := 5) (by omega)
  have ho := h1.ho
  rw [hn] at ho
  have hBW : B + 4 ≤ W1.heap.size := by omega
  go_wp2_with fail
  go_cut [] (fun wx => ∃ g' c', Sys B tz rz nm (.slice (some ⟨g', 0, none⟩) (n + 1) c') (.slice (some ⟨gl, 0, none⟩) k cl) (hs ++ [⟨B + 2, m, k⟩]) ls (upd hc m (hc m + 1)) wx ∧ Chg ((B + 3) :: (Value.slice ao n c).ownBlock.toList) W1 wx ∧ ((Value.slice ao n c).ownBlock = some g' ∨ W1.heap.size ≤ g'))
  case first =>
    go_region_law (refine step_append_lies _ rfl (.tmp 41) (.tmp 50) 81 rfl (B + 4) 88 i0 _ 4 24 Yba.underlying81 hi hz0 hz1 hz2 rfl (by decide) (.slice ao n c) n (flat encH hs) (by simp [Act.eval, Act.put]) (by exact ho.alloc _) ⟨W1.heap.size, 0, none⟩ 1 1 (encH ⟨B + 2, m, k⟩) (by simp [Act.eval, Act.put]) rfl (World.news_of_block (by exact heap_alloc_new W1 _)) (encH_one _) (by decide) (by unfold maxLen; omega) (by omega) (by simp; omega) _ rfl ?_; intro g' c' w2 hown2 hgrow2 hat2 hlt2; obtain ⟨k3, f3⟩ := h1.r3 (chg_grown W1 _ hgrow2))
    all_goals
      go_wp2_with fail
      go_meet
      case rel =>
        refine ⟨_, _, h1.pushH (chg_grown W1 _ hgrow2) hn hown2, ((chg_grown W1 _ hgrow2).mono (L' := (B + 3) :: (Value.slice ao n c).ownBlock.toList) (by intro x hx _; exact List.mem_cons_of_mem _ hx)).setCell _ _ (by simp), ?_⟩
        rcases hat2 with hat2 | hat2
        · exact .inl hat2
        · exact .inr (by rw [hat2]; simp)
  case rest =>
    obtain ⟨g', c', h2, hch2, hat2⟩ := hcut
    have hBW2 : B + 4 ≤ wc.heap.size := Nat.le_trans hBW hch2.size
    have HX : Hid (Chg ((B + 3) :: (Value.slice ao n c).ownBlock.toList) W1 wc ∧ ((Value.slice ao n c).ownBlock = some g' ∨ W1.heap.size ≤ g') ∧ W1.heap.size = w.heap.size ∧ Chg [B + 3] w W1) := ⟨hch2, hat2, s1, hchw⟩
    clear c3 c5 c3a c5a ho hch2 hat2 hBW s1 h1 hchw
    have k20 := h2.c20
    go_wp2_with fail
    refine (keepsAges (B + 3) _ (by exact k20)).mono ?_
    rintro e w3 ⟨rfl, hw3⟩
    rw [hw3]
    clear hw3 w3
    have c3 := h2.c3
    have c5 := h2.c5
    have c3a : ∀ o, (wc.alloc o).cell? ⟨B + 3, 3, none⟩ = some (.slice (some ⟨g', 0, none⟩) (n + 1) c') := fun o => (h2.r.alloc o).cell (i := 3) (by omega)
    have c5a : ∀ o, (wc.alloc o).cell? ⟨B + 2, 5, none⟩ = some (.slice (some ⟨gl, 0, none⟩) k cl) := fun o => (h2.t.alloc o).cell (i := 5) (by omega)
    have lo := h2.lo
    rw [hk] at lo
    go_wp2_with fail
    go_cut [] (fun wx => ∃ gl' cl', Sys B tz rz nm (.slice (some ⟨g', 0, none⟩) (n + 1) c') (.slice (some ⟨gl', 0, none⟩) (k + 1) cl') (hs ++ [⟨B + 2, m, k⟩]) (ls ++ [⟨B + 3, n, 0⟩]) (upd hc m (hc m + 1)) wx ∧ Chg [B + 2, gl] wc wx ∧ (gl' = gl ∨ wc.heap.size ≤ gl'))
    case first =>
      go_region_law (refine step_append_lies _ rfl (.tmp 80) (.tmp 89) 77 rfl (B + 4) 90 j0 _ 3 24 Yba.underlying77 ji jz0 jz1 jz2 rfl (by decide) (.slice (some ⟨gl, 0, none⟩) k cl) k (flat encL ls) (by simp [Act.eval, Act.put]) (by exact lo.alloc _) ⟨wc.heap.size, 0, none⟩ 1 1 (encL ⟨B + 3, n, 0⟩) (by simp [Act.eval, Act.put]) rfl (World.news_of_block (by exact heap_alloc_new wc _)) (encL_one _) (by decide) (by unfold maxLen; omega) (by omega) (by simp; omega) _ rfl ?_; intro gl' cl' w2 hown2 hgrow2 hat2 hlt2; obtain ⟨k3, f3⟩ := h2.t5 (chg_grown wc _ hgrow2))
      all_goals
        go_wp2_with fail
        go_meet
        case rel =>
          refine ⟨_, _, h2.pushL (chg_grown wc _ hgrow2) hk hown2, ((chg_grown wc _ hgrow2).mono (L' := [B + 2, gl]) (by intro x hx _; simp [Value.ownBlock] at hx; simp [hx])).setCell _ _ (by simp), ?_⟩
          rcases hat2 with hat2 | hat2
          · exact .inl (by simpa [Value.ownBlock] using hat2.symm)
          · exact .inr (by rw [hat2]; simp)
    case rest =>
      obtain ⟨gl', cl', h3, hch3, hat3⟩ := hcut
      have c5' := h3.c5
      obtain ⟨hx1, hx2, hx3, hx4⟩ := HX.out
      have hch : Chg ([B + 2, B + 3, gl] ++ (Value.slice ao n c).ownBlock.toList) w wc := by
        refine ((hx4.trans hx1).trans hch3).mono ?_
        intro x hx _
        simp only [List.mem_append, List.mem_cons, List.not_mem_nil, or_false] at hx ⊢
        rcases hx with (hx | hx | hx) | hx | hx
        · exact .inl (.inr (.inl hx))
        · exact .inl (.inr (.inl hx))
        · exact .inr hx
        · exact .inl (.inl hx)
        · exact .inl (.inr (.inr hx))
      have HY : Hid (Sys B tz rz nm (.slice (some ⟨g', 0, none⟩) (n + 1) c') (.slice (some ⟨gl', 0, none⟩) (k + 1) cl') (hs ++ [⟨B + 2, m, k⟩]) (ls ++ [⟨B + 3, n, 0⟩]) (upd hc m (hc m + 1)) wc ∧ Chg ([B + 2, B + 3, gl] ++ (Value.slice ao n c).ownBlock.toList) w wc ∧ ((Value.slice ao n c).ownBlock = some g' ∨ w.heap.size ≤ g') ∧ (gl' = gl ∨ w.heap.size ≤ gl')) := by
        refine ⟨h3, hch, ?_, ?_⟩
        · rcases hx2 with hx2 | hx2
          · exact .inl hx2
          · exact .inr (by omega)
        · rcases hat3 with hat3 | hat3
          · exact .inl hat3
          · exact .inr (by have := hx1.size; omega)
      clear hx1 hx2 hx3 hx4 HX hch h2 hch3 hat3 h3
      go_wp2_with fail
      go_ret
      exact ⟨rfl, _, _, _, _, HY.out⟩
end
end Go.Proofs.Ybulkdkve.lawS5594CWhole

import Derived.Test.YbulkdkveCFirst
namespace Go.Proofs.Ybulkdkve.lawS5594CWhole
open Go.RowKit Go.Deep
set_option linter.unusedVariables false
set_option linter.unusedSimpArgs false

section
variable {B : Nat} {tz rz : Nat → Value} {nm : ByteArray} {hs : List Hd} {hc : Nat → Int} {w : World}

def First0 (B : Nat) (tz rz : Nat → Value) (nm : ByteArray) (ao : Option Addr) (n c : Nat) (hs : List Hd) (hc : Nat → Int) (m : Nat) (w w' : World) : Prop :=
  ∃ g' c' gl' cl', Sys B tz rz nm (.slice (some ⟨g', 0, none⟩) (n + 1) c') (.slice (some ⟨gl', 0, none⟩) 1 cl') (hs ++ [⟨B + 2, m, 0⟩]) [⟨B + 3, n, 0⟩] (upd hc m (hc m + 1)) w' ∧ Chg ([B + 2, B + 3] ++ (Value.slice ao n c).ownBlock.toList) w w' ∧ ((Value.slice ao n c).ownBlock = some g' ∨ w.heap.size ≤ g') ∧ w.heap.size ≤ gl'

set_option maxRecDepth 100000 in
set_option maxHeartbeats 4000000 in
/-- resource.grant, a first lock; the transaction's first of all. -/
theorem grant_first_nil {ao : Option Addr} {n c m : Nat} (h : Sys B tz rz nm (.slice ao n c) (.slice none 0 0) hs [] hc w) (hn : hs.length = n) (hnb : n ≤ 100001) (hm : m < 4) (hB : B + 4 ≤ w.heap.size)
    (hb : ∀ j, -1000 ≤ hc j ∧ hc j ≤ 900000) :
    Calls Yba.prog 19 #[pt (B + 3), pt (B + 2), .int .u8 0, .int .u8 m] w fun e w' => e = .returned (.int .i64 0) ∧ First0 B tz rz nm ao n c hs hc m w w' := by
  obtain ⟨i0, hi, hz0, hz1, hz2⟩ := info_parts info88
  obtain ⟨j0, ji, jz0, jz1, jz2⟩ := info_parts info90
  have hmk : ∀ w, (Instr.makeSlice 77 (.int .i64 0) (.int .i64 8)).run Yba.prog w = .ok (.slice (some ⟨w.heap.size, 0, none⟩) 0 8) (w.alloc (.cells #[.pointer none, .int .i64 0, .int .i64 0, .pointer none, .int .i64 0, .int .i64 0, .pointer none, .int .i64 0, .int .i64 0, .pointer none, .int .i64 0, .int .i64 0, .pointer none, .int .i64 0, .int .i64 0, .pointer none, .int .i64 0, .int .i64 0, .pointer none, .int .i64 0, .int .i64 0, .pointer none, .int .i64 0, .int .i64 0] 90)) := fun _ => by kernel_rfl
  have hnl := fun (w : World) (a : Option Addr) (n c : Nat) => Lib.run_eql_slice_nil (P := Yba.prog) w 77 90 a n c 0 0 Yba.underlying77
  have cm := h.cnt hm
  have fR := h.r.frozen
  have bm := hb m
  obtain ⟨bm1, bm2⟩ := bm
  have h1 := (h.setC hm (hc m + 1)).drew
  have hwn : IntKind.i64.wrap (n : Int) = n := by rw [IntKind.wrap_i64]; omega
  have hchw : Chg [B + 3] w (w.setCell ⟨B + 3, 8 + m, none⟩ (.int .i64 (hc m + 1))).drew := ((Chg.refl _ w).setCell _ _ (by simp)).drew
  have s1 : ((w.setCell ⟨B + 3, 8 + m, none⟩ (.int .i64 (hc m + 1))).drew).heap.size = w.heap.size := by simp [World.setCell]
  go_enter Yba.func19, Yba.ntmps19
  go_wp2_with fail
  go_region
  generalize (w.setCell ⟨B + 3, 8 + m, none⟩ (.int .i64 (hc m + 1))).drew = W1 at *
  clear cm fR
  have c3 := h1.c3
  have c5 := h1.c5
  have c3a : ∀ o, (W1.alloc o).cell? ⟨B + 3, 3, none⟩ = some (.slice ao n c) := fun o => (h1.r.alloc o).cell (i := 3) (by omega)
  have c5a : ∀ o, (W1.alloc o).cell? ⟨B + 2, 5, none⟩ = some (.slice none 0 0) := fun o => (h1.t.alloc o).cell (i := 5) (by omega)
  have ho := h1.ho
  rw [hn] at ho
  have hBW : B + 4 ≤ W1.heap.size := by omega
  go_wp2_with fail
  go_cut [] (fun wx => ∃ g' c', Sys B tz rz nm (.slice (some ⟨g', 0, none⟩) (n + 1) c') (.slice none 0 0) (hs ++ [⟨B + 2, m, 0⟩]) [] (upd hc m (hc m + 1)) wx ∧ Chg ((B + 3) :: (Value.slice ao n c).ownBlock.toList) W1 wx ∧ ((Value.slice ao n c).ownBlock = some g' ∨ W1.heap.size ≤ g'))
  case first =>
    go_region_law (refine step_append_lies _ rfl (.tmp 41) (.tmp 50) 81 rfl (B + 4) 88 i0 _ 4 24 Yba.underlying81 hi hz0 hz1 hz2 rfl (by decide) (.slice ao n c) n (flat encH hs) (by simp [Act.eval, Act.put]) (by exact ho.alloc _) ⟨W1.heap.size, 0, none⟩ 1 1 (encH ⟨B + 2, m, 0⟩) (by simp [Act.eval, Act.put]) rfl (World.news_of_block (by exact heap_alloc_new W1 _)) (encH_one _) (by decide) (by unfold maxLen; omega) (by omega) (by simp; omega) _ rfl ?_; intro g' c' w2 hown2 hgrow2 hat2 hlt2; obtain ⟨k3, f3⟩ := h1.r3 (chg_grown W1 _ hgrow2))
    all_goals
      go_wp2_with fail
      go_meet
      case rel =>
        refine ⟨_, _, h1.pushH (chg_grown W1 _ hgrow2) hn hown2, ((chg_grown W1 _ hgrow2).mono (L' := (B + 3) :: (Value.slice ao n c).ownBlock.toList) (by intro x hx _; exact List.mem_cons_of_mem _ hx)).setCell _ _ (by simp), ?_⟩
        rcases hat2 with hat2 | hat2
        · exact .inl hat2
        · exact .inr (by rw [hat2]; simp)
  case rest =>
    obtain ⟨g', c', h2, hch2, hat2⟩ := hcut
    have hBW2 : B + 4 ≤ wc.heap.size := Nat.le_trans hBW hch2.size
    have HX : Hid (Chg ((B + 3) :: (Value.slice ao n c).ownBlock.toList) W1 wc ∧ ((Value.slice ao n c).ownBlock = some g' ∨ W1.heap.size ≤ g') ∧ W1.heap.size = w.heap.size ∧ Chg [B + 3] w W1) := ⟨hch2, hat2, s1, hchw⟩
    clear c3 c5 c3a c5a ho hch2 hat2 hBW s1 h1 hchw
    have k20 := h2.c20
    go_wp2_with fail
    refine (keepsAges (B + 3) _ (by exact k20)).mono ?_
    rintro e w3 ⟨rfl, hw3⟩
    rw [hw3]
    clear hw3 w3
    have h4 := h2.makeL hBW2 #[.pointer none, .int .i64 0, .int .i64 0, .pointer none, .int .i64 0, .int .i64 0, .pointer none, .int .i64 0, .int .i64 0, .pointer none, .int .i64 0, .int .i64 0, .pointer none, .int .i64 0, .int .i64 0, .pointer none, .int .i64 0, .int .i64 0, .pointer none, .int .i64 0, .int .i64 0, .pointer none, .int .i64 0, .int .i64 0] (by rfl)
    have hch4 : Chg [B + 2] wc ((wc.alloc (.cells #[.pointer none, .int .i64 0, .int .i64 0, .pointer none, .int .i64 0, .int .i64 0, .pointer none, .int .i64 0, .int .i64 0, .pointer none, .int .i64 0, .int .i64 0, .pointer none, .int .i64 0, .int .i64 0, .pointer none, .int .i64 0, .int .i64 0, .pointer none, .int .i64 0, .int .i64 0, .pointer none, .int .i64 0, .int .i64 0] 90)).setCell ⟨B + 2, 5, none⟩ (.slice (some ⟨wc.heap.size, 0, none⟩) 0 8)) := ((Chg.refl _ wc).alloc _).setCell _ _ (by simp)
    have s4 : wc.heap.size < ((wc.alloc (.cells #[.pointer none, .int .i64 0, .int .i64 0, .pointer none, .int .i64 0, .int .i64 0, .pointer none, .int .i64 0, .int .i64 0, .pointer none, .int .i64 0, .int .i64 0, .pointer none, .int .i64 0, .int .i64 0, .pointer none, .int .i64 0, .int .i64 0, .pointer none, .int .i64 0, .int .i64 0, .pointer none, .int .i64 0, .int .i64 0] 90)).setCell ⟨B + 2, 5, none⟩ (.slice (some ⟨wc.heap.size, 0, none⟩) 0 8)).heap.size := by simp [World.setCell]
    have c5 := h2.c5
    have c5a : ∀ o, (wc.alloc o).cell? ⟨B + 2, 5, none⟩ = some (.slice none 0 0) := fun o => (h2.t.alloc o).cell (i := 5) (by omega)
    have f5a : ∀ o, (wc.alloc o).frozen? ⟨B + 2, 5, none⟩ = false := fun o => (h2.t.alloc o).frozen 5
    have H4 : Hid (Sys B tz rz nm (.slice (some ⟨g', 0, none⟩) (n + 1) c') (.slice (some ⟨wc.heap.size, 0, none⟩) 0 8) (hs ++ [⟨B + 2, m, 0⟩]) [] (upd hc m (hc m + 1)) ((wc.alloc (.cells #[.pointer none, .int .i64 0, .int .i64 0, .pointer none, .int .i64 0, .int .i64 0, .pointer none, .int .i64 0, .int .i64 0, .pointer none, .int .i64 0, .int .i64 0, .pointer none, .int .i64 0, .int .i64 0, .pointer none, .int .i64 0, .int .i64 0, .pointer none, .int .i64 0, .int .i64 0, .pointer none, .int .i64 0, .int .i64 0] 90)).setCell ⟨B + 2, 5, none⟩ (.slice (some ⟨wc.heap.size, 0, none⟩) 0 8)) ∧ Chg [B + 2] wc ((wc.alloc (.cells #[.pointer none, .int .i64 0, .int .i64 0, .pointer none, .int .i64 0, .int .i64 0, .pointer none, .int .i64 0, .int .i64 0, .pointer none, .int .i64 0, .int .i64 0, .pointer none, .int .i64 0, .int .i64 0, .pointer none, .int .i64 0, .int .i64 0, .pointer none, .int .i64 0, .int .i64 0, .pointer none, .int .i64 0, .int .i64 0] 90)).setCell ⟨B + 2, 5, none⟩ (.slice (some ⟨wc.heap.size, 0, none⟩) 0 8)) ∧ wc.heap.size < ((wc.alloc (.cells #[.pointer none, .int .i64 0, .int .i64 0, .pointer none, .int .i64 0, .int .i64 0, .pointer none, .int .i64 0, .int .i64 0, .pointer none, .int .i64 0, .int .i64 0, .pointer none, .int .i64 0, .int .i64 0, .pointer none, .int .i64 0, .int .i64 0, .pointer none, .int .i64 0, .int .i64 0, .pointer none, .int .i64 0, .int .i64 0] 90)).setCell ⟨B + 2, 5, none⟩ (.slice (some ⟨wc.heap.size, 0, none⟩) 0 8)).heap.size) := ⟨h4, hch4, s4⟩
    clear h4 hch4 s4
    go_wp2_with fail
    generalize ((wc.alloc (.cells #[.pointer none, .int .i64 0, .int .i64 0, .pointer none, .int .i64 0, .int .i64 0, .pointer none, .int .i64 0, .int .i64 0, .pointer none, .int .i64 0, .int .i64 0, .pointer none, .int .i64 0, .int .i64 0, .pointer none, .int .i64 0, .int .i64 0, .pointer none, .int .i64 0, .int .i64 0, .pointer none, .int .i64 0, .int .i64 0] 90)).setCell ⟨B + 2, 5, none⟩ (.slice (some ⟨wc.heap.size, 0, none⟩) 0 8)) = W4 at *
    obtain ⟨h4, hch4, s4⟩ := H4.out
    clear H4 c5 c5a f5a hmk
    have c3 := h4.c3
    have c5 := h4.c5
    have c3a : ∀ o, (W4.alloc o).cell? ⟨B + 3, 3, none⟩ = some (.slice (some ⟨g', 0, none⟩) (n + 1) c') := fun o => (h4.r.alloc o).cell (i := 3) (by omega)
    have c5a : ∀ o, (W4.alloc o).cell? ⟨B + 2, 5, none⟩ = some (.slice (some ⟨wc.heap.size, 0, none⟩) 0 8) := fun o => (h4.t.alloc o).cell (i := 5) (by omega)
    have lo := h4.lo
    obtain ⟨wz, hwz⟩ : ∃ wz, wz = wc.heap.size := ⟨_, rfl⟩
    have HZ : Hid (wz = wc.heap.size) := hwz
    clear hwz
    go_cut [] (fun wx => ∃ gl' cl', Sys B tz rz nm (.slice (some ⟨g', 0, none⟩) (n + 1) c') (.slice (some ⟨gl', 0, none⟩) 1 cl') (hs ++ [⟨B + 2, m, 0⟩]) [⟨B + 3, n, 0⟩] (upd hc m (hc m + 1)) wx ∧ Chg [B + 2, wz] W4 wx ∧ wz ≤ gl')
    case first =>
      go_region_law (refine step_append_lies _ rfl (.tmp 80) (.tmp 89) 77 rfl (B + 4) 90 j0 _ 3 24 Yba.underlying77 ji jz0 jz1 jz2 rfl (by decide) (.slice (some ⟨wc.heap.size, 0, none⟩) 0 8) 0 [] (by simp [Act.eval, Act.put]) (by exact lo.alloc _) ⟨W4.heap.size, 0, none⟩ 1 1 (encL ⟨B + 3, n, 0⟩) (by simp [Act.eval, Act.put]) rfl (World.news_of_block (by exact heap_alloc_new W4 _)) (encL_one _) (by decide) (by unfold maxLen; omega) (by omega) (by simp; omega) _ rfl ?_; intro gl' cl' w2 hown2 hgrow2 hat2 hlt2; obtain ⟨k3, f3⟩ := h4.t5 (chg_grown W4 _ hgrow2))
      all_goals
        go_wp2_with fail
        go_meet
        case rel =>
          refine ⟨_, _, h4.pushL (n := 0) (chg_grown W4 _ hgrow2) rfl hown2, ((chg_grown W4 _ hgrow2).mono (L' := [B + 2, wz]) (by intro x hx _; simp [Value.ownBlock] at hx; simp [hx, HZ.out])).setCell _ _ (by simp), ?_⟩
          rcases hat2 with hat2 | hat2
          · have := HZ.out; simp [Value.ownBlock] at hat2; omega
          · have := HZ.out; rw [hat2]; simp; omega
    case rest =>
      obtain ⟨gl', cl', h3, hch3, hat3⟩ := hcut
      have c5' := h3.c5
      obtain ⟨hx1, hx2, hx3, hx4⟩ := HX.out
      have hsz := hx1.size
      have hwz := HZ.out
      have hch : Chg ([B + 2, B + 3] ++ (Value.slice ao n c).ownBlock.toList) w wc := by
        refine (((hx4.trans hx1).trans hch4).trans hch3).mono ?_
        intro x hx hlt
        simp only [List.mem_append, List.mem_cons, List.not_mem_nil, or_false] at hx ⊢
        rcases hx with ((hx | hx | hx) | hx) | hx | hx
        · exact .inl (.inr hx)
        · exact .inl (.inr hx)
        · exact .inr hx
        · exact .inl (.inl hx)
        · exact .inl (.inl hx)
        · omega
      have HY : First0 B tz rz nm ao n c hs hc m w wc := by
        refine ⟨g', c', gl', cl', h3, hch, ?_, by omega⟩
        rcases hx2 with hx2 | hx2
        · exact .inl hx2
        · exact .inr (by omega)
      clear hx1 hx2 hx3 hx4 HX hch h2 hch3 hat3 h3 h4 hch4
      go_wp2_with fail
      go_ret
      exact ⟨rfl, HY⟩
end
end Go.Proofs.Ybulkdkve.lawS5594CWhole

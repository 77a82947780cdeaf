import Derived.Test.YbulkdkvsBuild
import Derived.Deep.CutBlock
import Derived.Deep.AppendLies
namespace Go.Proofs.Ybulkdkvs.lawS5595CWhole
open Go.RowKit Go.Deep
set_option linter.unusedVariables false
set_option linter.unusedSimpArgs false

/-- What the walk is told of the slice of bytes that came in. -/
def Rd (w : World) (a : Option Addr) (len : Nat) (Z : Nat → Int) : Prop :=
  len = 0 ∨ ∃ b off, a = some ⟨b, off, none⟩ ∧ b < w.heap.size ∧ ∀ i, i < len → w.cell? ⟨b, off + i, none⟩ = some (.int .u8 (Z i)) ∧ 0 ≤ Z i ∧ Z i ≤ 255

def mlOf (z : Nat → Int) (j : Nat) : Nat := (z j).toNat + 1
def sOf (z : Nat → Int) : Nat → Nat
  | 0 => 0
  | j + 1 => sOf z j + mlOf z j
def Lay (z : Nat → Int) (cs : List Ck) : Prop := ∀ i c, cs[i]? = some c → c.s = sOf z i ∧ c.m = mlOf z i

theorem sOf_le (z : Nat → Int) (N : Nat) (h : ∀ j, j < N → z j ≤ 255) : ∀ j, j ≤ N → sOf z j ≤ 256 * j
  | 0, _ => by simp [sOf]
  | j + 1, hj => by
    have := sOf_le z N h j (by omega)
    have := h j (by omega)
    simp only [sOf, mlOf]
    omega

theorem Lay.push {z : Nat → Int} {cs : List Ck} {b s m : Nat} (h : Lay z cs) (hs : s = sOf z cs.length) (hm : m = mlOf z cs.length) : Lay z (cs ++ [⟨b, s, m⟩]) := by
  intro i c hc
  rw [List.getElem?_append] at hc
  split at hc
  · exact h i c hc
  · rename_i hi
    have hi2 : i = cs.length := by
      rcases Nat.lt_or_ge (i - cs.length) 1 with h | h
      · omega
      · rw [List.getElem?_eq_none (by simpa using h)] at hc; cases hc
    subst hi2
    simp at hc
    subst hc
    exact ⟨hs, hm⟩

/-- All that is read behind the building. -/
structure Rdy (B kb kk N n : Nat) (ac ao : Option Addr) (ab cc fb : Nat) (cr : Nat → Nat) (z : Nat → Int) (G : Nat → Nat) (w : World) : Prop where
  mem : Mem B kb kk N ac ab cc cr (mlOf z) (sOf z) G w
  hn : n = sOf z N
  hao : n = 0 ∨ ao = some ⟨fb, 0, none⟩
  flat : ∀ i, i < n → w.cell? ⟨fb, i, none⟩ = some (pt (G i))
  data : ∀ i, i < n → w.cell? ⟨G i, 3, none⟩ = some (.int .i64 i)

theorem Rdy.chg {B kb kk N n : Nat} {ac ao : Option Addr} {ab cc fb : Nat} {cr : Nat → Nat} {z : Nat → Int} {G : Nat → Nat} {w w1 : World} (r : Rdy B kb kk N n ac ao ab cc fb cr z G w) (h : Chg [] w w1) : Rdy B kb kk N n ac ao ab cc fb cr z G w1 :=
  ⟨r.mem.chg h, r.hn, r.hao, fun i hi => h.cell (r.flat i hi) (by simp), fun i hi => h.cell (r.data i hi) (by simp)⟩

theorem own_head {w : World} {base e n c : Nat} {a : Option Addr} {xs : List Value} (h : w.ownsRow base e 1 (.slice a n c) n xs) : ∃ b, (n = 0 ∨ a = some ⟨b, 0, none⟩) ∧ ∀ i v, xs[i]? = some v → w.cell? ⟨b, i, none⟩ = some v := by
  have h0 := h
  rcases h.2 with ⟨h1, h2⟩ | ⟨g, cap, cur, h1, h2⟩
  · subst h2
    refine ⟨0, .inl rfl, ?_⟩
    intro i v hv
    have := h.1
    simp at this
    subst this
    simp at hv
  · injection h1 with h1 _ h3
    subst h1
    subst h3
    refine ⟨g, .inr rfl, ?_⟩
    intro i v hv
    have hi : i < xs.length := by
      rcases Nat.lt_or_ge i xs.length with h | h
      · exact h
      · rw [List.getElem?_eq_none h] at hv; cases hv
    have := h0.1
    rw [h0.cellAt i (by omega)]
    exact hv

theorem Bld.rdy {B n c cc N kb kk : Nat} {ao ac : Option Addr} {gs : List Nat} {cs : List Ck} {z : Nat → Int} {w0 w W : World} (p : Bld B (.slice ao n c) (.slice ac N cc) gs cs w0 w) (hcs : cs.length = N) (hgs : gs.length = n) (hn : n = sOf z N) (hlay : Lay z cs) (hz : ∀ i, i < N → 0 ≤ z i ∧ z i ≤ 255) (hN : N ≤ 2048) (hkk : kk ≤ n)
    (hch : Chg [] w W) (hk : W.cell? ⟨kb, 0, none⟩ = some (.int .i64 kk)) : ∃ (ab fb : Nat) (cr G : Nat → Nat), Rdy B kb kk N n ac ao ab cc fb cr z G W := by
  have p := p.more hch
  have co := p.co
  have fo := p.fo
  rw [hcs] at co
  rw [hgs] at fo
  obtain ⟨ab, hac, hab⟩ := own_head co
  obtain ⟨fb, hao, hfb⟩ := own_head fo
  have hget : ∀ i, i < n → gs[i]? = some (gs.getD i 0) := fun i hi => by
    rw [List.getD_eq_getElem?_getD, List.getElem?_eq_getElem (by omega)]
    rfl
  have hck : ∀ j, j < N → ∃ x, cs[j]? = some x ∧ x ∈ cs ∧ (cs[j]?.map Ck.b).getD 0 = x.b := fun j hj => by
    refine ⟨cs[j], List.getElem?_eq_getElem (by omega), List.getElem_mem _, ?_⟩
    rw [List.getElem?_eq_getElem (by omega)]
    rfl
  refine ⟨ab, fb, fun j => (cs[j]?.map Ck.b).getD 0, fun i => gs.getD i 0, ⟨p.o.cell (i := 0) (by omega), hac, ?_, ?_, ?_, fun j _ => rfl, rfl, ?_, hk, by omega, hN⟩, hn, hao, ?_, ?_⟩
  · intro j hj
    obtain ⟨x, hx, _, hb⟩ := hck j hj
    have hl := hlay j x hx
    refine hab j _ ?_
    rw [List.getElem?_map]
    simp only [hb, hx, Option.map_some, Ck.val, hl.2]
    rfl
  · intro j hj t ht
    obtain ⟨x, hx, hm, hb⟩ := hck j hj
    have hl := hlay j x hx
    have hr := (p.row x hm).2.2.2.cell (i := t) (by omega)
    simp only [hb]
    rw [hr]
    simp only [ckRow]
    rw [if_pos (by omega), hl.1]
  · intro j hj
    have := hz j hj
    unfold mlOf
    omega
  · intro i hi
    have := (p.tab i _ (hget i (by omega))).2.cell (i := 6) (by omega)
    exact this
  · intro i hi
    exact hfb i _ (by rw [List.getElem?_map, hget i hi]; rfl)
  · intro i hi
    have := (p.tab i _ (hget i hi)).2.cell (i := 3) (by omega)
    exact this

theorem info31 : (Yba.prog.info? 31).isSome = true := by kernel_rfl
theorem neq_same (a : Option Addr) (W : World) : (binOp .neq 29 (.pointer a) (.pointer a)).run Yba.prog W = .ok (.bool false) W := by
  obtain ⟨j, hj⟩ := Option.isSome_iff_exists.1 info31
  have h : ∀ d : Nat, (Op.equalIn (d + 1) 29 (.pointer a) (.pointer a)).run Yba.prog W = .ok true W := fun d => by
    cases a with
    | none => exact run_equalIn_pointer_nil (P := Yba.prog) W d 29 none Yba.underlying29
    | some a => simp [Op.equalIn, run_underlying Yba.underlying29, sizeOf, typeInfo, hj, run_sameAddr_same]
  simp only [binOp]
  simp [Op.equal, Op.maxDepth, h 9999]
theorem at_ptr (G : Nat → Nat) (kk n : Nat) : ∃ pa, ptAt G kk n = .pointer pa ∧ (kk < n → pa = some ⟨G kk, 0, none⟩) ∧ (¬ kk < n → pa = none) := by
  unfold ptAt
  split
  · exact ⟨_, rfl, fun _ => rfl, fun h => by omega⟩
  · exact ⟨_, rfl, fun h => by omega, fun _ => rfl⟩
theorem before_ptr (G : Nat → Nat) (kk : Nat) : ∃ pb, ptBefore G kk = .pointer pb ∧ (0 < kk → pb = some ⟨G (kk - 1), 0, none⟩) ∧ (¬ 0 < kk → pb = none) := by
  unfold ptBefore
  split
  · exact ⟨_, rfl, fun _ => rfl, fun h => by omega⟩
  · exact ⟨_, rfl, fun h => by omega, fun _ => rfl⟩

set_option maxRecDepth 100000 in
set_option maxHeartbeats 4000000 in
theorem walk_all (a0 : Option Addr) (N cap0 : Nat) (z : Nat → Int) (a1 : Int) (w : World) (hN : N ≤ 2048) (r0 : Rd w a0 N z) (b1 : 0 ≤ a1 ∧ a1 ≤ 4294967295) :
    Calls Yba.prog 3 #[.slice a0 N cap0, .int .u32 a1] w fun e w' => e = .returned (.bool true) ∧ Below w.heap.size w w' := by
  obtain ⟨i0, hi, hz0, hz1, hz2⟩ := info_parts info29
  obtain ⟨j0, ji, jz0, jz1, jz2⟩ := info_parts info24
  obtain ⟨b11, b12⟩ := b1
  have hle : decide ((2048 : Int) < (N : Int)) = false := by simp; omega
  obtain ⟨B, hB⟩ : ∃ B, w.heap.size = B := ⟨_, rfl⟩
  have HB : Hid (w.heap.size = B) := hB
  clear hB
  go_enter Yba.func3, Yba.ntmps3
  go_upto_block 0 with fail
  rw [show w.heap.size = B from HB.out]
  have hB0 : Bld B (.slice none 0 0) (.slice none 0 0) [] [] w (w.alloc (.cells #[.slice none 0 0] 28)) := by rw [← HB.out]; exact Bld.start w
  generalize (w.alloc (Obj.cells #[.slice none 0 0] 28)) = W0 at *
  go_cut [5] (fun s5 wx => ∃ (ao ac : Option Addr) (n c cc : Nat) (gs : List Nat) (cs : List Ck), s5 = .slice ao n c ∧ cs.length = N ∧ gs.length = n ∧ n = sOf z N ∧ Lay z cs ∧ (N = 0 → ac = none) ∧ (n = 0 → ao = none) ∧ Bld B (.slice ao n c) (.slice ac N cc) gs cs w wx)
  case first => as_aux_lemma =>
    go_wp2_with fail
    go_loopg [5, 7] N (fun gk s5 s7 wr => ∃ (j : Nat) (ao ac : Option Addr) (n c cc : Nat) (gs : List Nat) (cs : List Ck), j + gk = N ∧ s7 = .int .i64 j ∧ s5 = .slice ao n c ∧ cs.length = j ∧ gs.length = n ∧ n = sOf z j ∧ Lay z cs ∧ (j = 0 → ac = none) ∧ (n = 0 → ao = none) ∧ Bld B (.slice ao n c) (.slice ac j cc) gs cs w wr)
    case atStart => exact ⟨0, none, none, 0, 0, 0, [], [], by omega, rfl, rfl, rfl, rfl, rfl, (fun i c h => by simp at h), fun _ => rfl, fun _ => rfl, hB0⟩
    case round =>
      clear hB0
      obtain ⟨j, ao, ac, n, c, cc, gs, cs, hgk, rfl, rfl, hcs, hgs, hn, hlay, hac, hao, hb⟩ := hrel
      by_cases hlt : j < N
      · have hz : ∀ i, i < N → 0 ≤ z i ∧ z i ≤ 255 := by
          rcases r0 with h | ⟨_, _, _, _, h⟩
          · intro i hi; omega
          · exact fun i hi => (h i hi).2
        have hsle := sOf_le z N (fun i hi => (hz i hi).2) (j + 1) (by omega)
        have hbig : n + mlOf z j ≤ 600000 := by rw [hn]; simp only [sOf] at hsle; omega
        rcases r0 with r0 | ⟨b0, o0, rfl, hb0, hr0⟩
        · omega
        obtain ⟨hcell, hza, hzb⟩ := hr0 j hlt
        have hcell2 : wr.cell? ⟨b0, o0 + j, none⟩ = some (.int .u8 (z j)) := by
          rw [hb.bel.cell (p := ⟨b0, o0 + j, none⟩) (by rw [← HB.out]; exact hb0)]
          exact hcell
        have hm : z j + 1 = ((mlOf z j : Nat) : Int) := by unfold mlOf; omega
        have hm256 : mlOf z j ≤ 256 := by unfold mlOf; omega
        have HML : Hid (∃ x, x = mlOf z j ∧ n + x = sOf z (j + 1)) := ⟨_, rfl, by rw [hn]; rfl⟩
        have HZ : Hid (∀ i, i < N → 0 ≤ z i ∧ z i ≤ 255) := hz
        have hlti : (j : Int) < (N : Int) := by omega
        have HN := hid_mk hn
        clear hz hsle hcell hr0 hn
        generalize hmx : mlOf z j = m at *
        have HMX : Hid (mlOf z j = m) := hmx
        have HM0 : Hid (0 < m) := by rw [← hmx]; exact Nat.succ_pos _
        clear hmx
        have hmk := run_make_row' (P := Yba.prog) 24 29 (.pointer none) 8 Yba.underlying24 info29 rfl .i64 .i64 m (by omega) (by omega)
        have hI0 := hb.make m
        have hcb : wr.heap.size = wr.heap.size := rfl
        clear hac hao hcb
        go_upto_block 2 with fail
        clear hmk hcell2
        rw [hgs] at hI0
        have hsz := hb.size
        clear hb
        obtain ⟨cb, hcb⟩ : ∃ cb, wr.heap.size = cb := ⟨_, rfl⟩
        rw [hcb] at hI0 hsz ⊢
        generalize (wr.alloc (Obj.cells (madeCells #[Value.pointer none] m) 29)) = W1 at *
        clear hcb
        go_cut [5] (fun s5 wx => ∃ (ao : Option Addr) (n' c : Nat) (gs : List Nat), s5 = .slice ao n' c ∧ gs.length = n' ∧ n' = n + m ∧ Inn B (.slice ao n' c) (.slice ac j cc) gs cs cb n m m w wx)
        case first => as_aux_lemma =>
          go_wp2_with fail
          go_loopg [5, 10] m (fun gk s5 s10 wr => ∃ (k : Nat) (ao : Option Addr) (n' c : Nat) (gs : List Nat), k + gk = m ∧ s10 = .int .i64 k ∧ s5 = .slice ao n' c ∧ gs.length = n' ∧ Inn B (.slice ao n' c) (.slice ac j cc) gs cs cb n m k w wr)
          case atStart => exact ⟨0, ao, n, c, gs, by omega, rfl, rfl, hgs, hI0⟩
          case round =>
            clear hI0
            obtain ⟨k, ao', n', c', gs', hgk', rfl, rfl, hgs', hI⟩ := hrel
            by_cases hkm : k < m
            · have hfr : ∀ o, (wr.alloc o).frozen? ⟨cb, k, none⟩ = false := fun o => (hI.here.alloc o).frozen k
              have hcc : ∀ o, (wr.alloc o).cell? ⟨cb, k, none⟩ = some (.pointer none) := fun o => by rw [(hI.here.alloc o).cell hkm]; simp [ckRow]
              have hkmi : (k : Int) < (m : Int) := by omega
              have hfo : Hid (∀ o v o2, (((wr.alloc o).setCell ⟨cb, k, none⟩ v).alloc o2).ownsRow (B + 1) 29 1 (.slice ao' n' c') n' (gs'.map pt)) := fun o v o2 => by
                have h1 := own_setCell (hI.bld.fo.alloc o) ⟨cb, k, none⟩ v (fun g hg h => hI.apart (by rw [hg, h]))
                rw [hgs'] at h1
                exact h1.alloc o2
              have hnb : Hid (∀ o v o2, (((wr.alloc o).setCell ⟨cb, k, none⟩ v).alloc o2).heap[wr.heap.size + 1]? = some o2) := fun o v o2 => by
                have := heap_alloc_new ((wr.alloc o).setCell ⟨cb, k, none⟩ v) o2
                rw [nblk_setCell] at this
                simpa using this
              have hsz2 := hI.bld.size
              have hlen := hI.len
              have HI : Hid _ := hid_mk hI
              clear hI
              go_wp2_with (at_builtin; go_must (refine wpList_append_lies _ rfl (.tmp 57) (.tmp 59) 24 rfl (B + 1) 29 i0 _ 1 8 Yba.underlying24 hi hz0 hz1 hz2 rfl (by decide) _ n' (gs'.map pt) rfl (hfo.out _ _ _) ⟨wr.heap.size + 1, 0, none⟩ 1 1 [pt wr.heap.size] rfl rfl (World.news_of_block (by exact hnb.out _ _ _)) (by intro u hu; simp at hu; subst hu; rfl) (by decide) (by unfold maxLen; omega) (by omega) (by simp; omega) _ rfl ?_))
              intro g' c2 w2 hown2 hgrow2 hat2 hlt2
              have P2 := HI.out.step hkm hgs' hgrow2 hown2 (by rcases hat2 with h | h; exact .inl h; exact .inr (by first | exact h | (rw [h]; simp [nblk_setCell]) | rw [h]))
              clear hown2 hgrow2 hat2 hlt2 HI hfo hnb hcc hfr
              go_wp2_with fail
              go_roundg (gk - 1)
              case rel => exact ⟨k + 1, _, n' + 1, c2, gs' ++ [_], by omega, by go_num, rfl, by simp [hgs'], P2⟩
              case measure => omega
            · obtain rfl : k = m := by omega
              have hn2 := hI.len
              clear hkm hgk'
              go_wp2_with fail
              go_meet
              case rel => exact ⟨ao', n', c', gs', rfl, hgs', by omega, hI⟩
        case rest => as_aux_lemma =>
          clear hI0
          obtain ⟨ao', n', c', gs', rfl, hgs', hn', hI⟩ := hcut
          have HN' := hid_mk hn'
          clear hn'
          have hoc := hI.bld.o.cell (i := 0) (by omega)
          have hof := hI.bld.o.frozen 0
          have hco : Hid (∀ o, (wc.alloc o).ownsRow (B + 1) 24 1 (.slice ac j cc) j (cs.map Ck.val)) := fun o => by
            have h1 := hI.bld.co.alloc o
            rw [hcs] at h1
            exact h1
          have hnb : Hid (∀ o, (wc.alloc o).heap[wc.heap.size]? = some o) := fun o => heap_alloc_new wc o
          have hsz2 := hI.bld.size
          have hown0 : ∀ g, (Value.slice ac j cc).ownBlock = some g → B + 1 ≤ g := fun g hg => (hI.bld.co.lt g hg).1
          have HI := hid_mk hI
          clear hI
          go_wp2_with (at_builtin; go_must (refine wpList_append_lies _ rfl (.tmp 65) (.tmp 67) 26 rfl (B + 1) 24 j0 _ 1 24 Yba.underlying26 ji jz0 jz1 jz2 rfl (by decide) _ j (cs.map Ck.val) rfl (hco.out _) ⟨wc.heap.size, 0, none⟩ 1 1 [.slice (some ⟨cb, 0, none⟩) m m] rfl rfl (World.news_of_block (by exact hnb.out _)) (by intro u hu; simp at hu; subst hu; rfl) (by decide) (by unfold maxLen; omega) (by omega) (by simp; omega) _ rfl ?_))
          intro g' c2 w2 hown2 hgrow2 hat2 hlt2
          have P2 := HI.out.close hcs hgrow2 hown2
          have hch : Chg (Value.slice ac j cc).ownBlock.toList wc w2 := ((Chg.refl _ wc).alloc _).grown hgrow2 (by intro b hb _; rw [hb]; simp)
          have hro := hch.row HI.out.bld.o (by intro h; rw [Option.mem_toList] at h; have := hown0 _ h; omega)
          have hoc2 := hro.cell (i := 0) (by omega)
          have hof2 := hro.frozen 0
          clear hown2 hgrow2 hat2 hlt2 HI hco hnb hch hro hown0 hoc hof
          go_wp2_with fail
          go_roundg (gk - 1)
          case rel => exact ⟨j + 1, ao', _, n', c', c2, gs', cs ++ [⟨cb, n, m⟩], by omega, by go_num, rfl, by simp [hcs], hgs', by obtain ⟨x, hx1, hx2⟩ := HML.out; have := HN'.out; omega, hlay.push (by rw [hcs]; exact HN.out) (by rw [hcs]; exact HMX.out.symm), by omega, fun h => by have := HN'.out; have := HM0.out; omega, P2⟩
          case measure => omega
      · obtain rfl : j = N := by omega
        clear hlt hgk r0
        go_wp2_with fail
        go_meet
        case rel => exact ⟨ao, ac, n, c, cc, gs, cs, rfl, hcs, hgs, hn, hlay, hac, hao, hb⟩
  case rest => as_aux_lemma =>
    clear hB0
    obtain ⟨ao, ac, n, c, cc, gs, cs, rfl, hcs, hgs, hn, hlay, hac, hao, hb⟩ := hcut
    have hz : ∀ i, i < N → 0 ≤ z i ∧ z i ≤ 255 := by
      rcases r0 with h | ⟨_, _, _, _, h⟩
      · intro i hi; omega
      · exact fun i hi => (h i hi).2
    have hsle := sOf_le z N (fun i hi => (hz i hi).2) N (Nat.le_refl _)
    have hnle : n ≤ 524288 := by omega
    obtain ⟨kk, hkk⟩ : ∃ kk : Nat, a1 % ((n : Int) + 1) = (kk : Int) := ⟨(a1 % ((n : Int) + 1)).toNat, by have := Int.emod_nonneg a1 (show (n : Int) + 1 ≠ 0 by omega); omega⟩
    have hkn : kk ≤ n := by have := Int.emod_lt_of_pos a1 (show (0 : Int) < (n : Int) + 1 by omega); omega
    have HX : Hid (∀ W, Chg [] wc W → W.cell? ⟨wc.heap.size, 0, none⟩ = some (.int .i64 kk) → ∃ (ab fb : Nat) (cr G : Nat → Nat), Rdy B wc.heap.size kk N n ac ao ab cc fb cr z G W) := fun W h1 h2 => hb.rdy hcs hgs hn hlay hz hN hkn h1 h2
    have HW : Hid (Below B w wc ∧ B + 1 ≤ wc.heap.size) := ⟨hb.bel, hb.size⟩
    have HZ := hid_mk hz
    clear hcs hgs hn hlay hac hao hb hsle hz
    go_wp2_with fail
    have hch0 : Chg [] wc (wc.alloc (Obj.cells #[.int .i64 kk] 3)) := (Chg.refl [] wc).alloc _
    obtain ⟨ab, fb, cr, G, R0⟩ := HX.out _ hch0 ((World.rowIs_alloc wc #[.int .i64 kk] 3 (fun _ => .int .i64 kk) (by intro i hi; match i, hi with | 0, _ => rfl)).cell (i := 0) (by simp))
    refine (search_at R0.mem).mono ?_
    rintro e W ⟨rfl, hchW⟩
    have R := R0.chg hchW
    have HBel : Hid (Below B w W) := hchW.below (hch0.below HW.out.1 (by have := HW.out.2; omega) (by simp)) (by have := HW.out.2; simp; omega) (by simp)
    have hk := R.mem.k
    have ek : ptAt G kk (sOf z N) = ptAt G kk n := by rw [R.hn]
    obtain ⟨pa, ea, pa1, pa2⟩ := at_ptr G kk n
    obtain ⟨pb, eb, pb1, pb2⟩ := before_ptr G kk
    rw [ek, ea, eb]
    have HPa := hid_mk (And.intro pa1 pa2)
    have HPb := hid_mk (And.intro pb1 pb2)
    have HR := hid_mk R
    clear pa1 pa2 pb1 pb2 ea eb
    clear R R0 hchW HX ek hch0
    generalize wc.heap.size = kb at *
    go_upto_if 89 with fail
    go_cut [17] (fun s17 wx => s17 = .pointer pa ∧ W = wx)
    case first => as_aux_lemma =>
      by_cases hlt : kk < n
      · have hf := HR.out.flat kk hlt
        have hao : ao = some ⟨fb, 0, none⟩ := by rcases HR.out.hao with h | h; omega; exact h
        subst hao
        have e1 := hid_mk (HPa.out.1 hlt)
        have hlti : decide ((kk : Int) < (n : Int)) = true := by simp; omega
        have hl2 : (kk : Int) < (n : Int) := by omega
        go_wp2_with fail
        go_meet
        case rel => exact ⟨by rw [e1.out], rfl⟩
      · have e1 := hid_mk (HPa.out.2 hlt)
        have hlti : decide ((kk : Int) < (n : Int)) = false := by simp; omega
        go_wp2_with fail
        go_meet
        case rel => exact ⟨by rw [e1.out], rfl⟩
    case rest => as_aux_lemma =>
      obtain ⟨rfl, rfl⟩ := hcut
      go_upto_if 95 with fail
      go_cut [18] (fun s18 wx => s18 = .pointer pb ∧ W = wx)
      case first => as_aux_lemma =>
        by_cases hlt : 0 < kk
        · have hf := HR.out.flat (kk - 1) (by omega)
          have hao : ao = some ⟨fb, 0, none⟩ := by rcases HR.out.hao with h | h; omega; exact h
          subst hao
          have e1 := hid_mk (HPb.out.1 hlt)
          have hlti : decide ((0 : Int) < (kk : Int)) = true := by simp; omega
          have hc1 : (kk : Int) - 1 = ((kk - 1 : Nat) : Int) := by omega
          have hc2 : kk - 1 < n := by omega
          clear HPb
          generalize kk - 1 = k1 at *
          go_wp2_with fail
          go_meet
          case rel => exact ⟨by rw [e1.out], rfl⟩
        · have e1 := hid_mk (HPb.out.2 hlt)
          obtain rfl : kk = 0 := by omega
          go_wp2_with fail
          go_meet
          case rel => exact ⟨by rw [e1.out], rfl⟩
      case rest => as_aux_lemma =>
        obtain ⟨rfl, rfl⟩ := hcut
        have n1 := neq_same pa
        have n2 := neq_same pb
        have ho := HR.out.mem.o
        go_upto_region 31 with fail
        clear n1 n2 ho hk HPa HPb
        go_wp2_with fail
        go_loopg [19, 20] N (fun gk s19 s20 wr => ∃ j : Nat, j + gk = N ∧ s20 = .int .i64 j ∧ s19 = .int .i64 (sOf z j : Nat) ∧ Chg [] W wr)
        case atStart => exact ⟨0, by omega, rfl, rfl, Chg.refl [] W⟩
        case round =>
          obtain ⟨j, hgk, rfl, rfl, hch⟩ := hrel
          by_cases hlt : j < N
          · rcases r0 with r0 | ⟨b0, o0, rfl, hb0, hr0⟩
            · omega
            obtain ⟨hcell, hza, hzb⟩ := hr0 j hlt
            have hcell2 : wr.cell? ⟨b0, o0 + j, none⟩ = some (.int .u8 (z j)) := by
              refine hch.cell ?_ (by simp)
              rw [HBel.out.cell (p := ⟨b0, o0 + j, none⟩) (by rw [← HB.out]; exact hb0)]
              exact hcell
            have R := HR.out.chg hch
            have ho := R.mem.o
            have hc1 := R.mem.ch j hlt
            have hac : ac = some ⟨ab, 0, none⟩ := by rcases R.mem.av with h | h; omega; exact h
            subst hac
            have hm : z j + 1 = ((mlOf z j : Nat) : Int) := by unfold mlOf; omega
            have hm256 : mlOf z j ≤ 256 := by unfold mlOf; omega
            have HS : Hid (sOf z j + mlOf z j = sOf z (j + 1) ∧ sOf z (j + 1) ≤ sOf z N) := ⟨rfl, R.mem.mono (by omega) (Nat.le_refl _)⟩
            have hlti : (j : Int) < (N : Int) := by omega
            have HRow : Hid (∀ W', Chg [] W W' → ∀ t, t < mlOf z j → ∃ q, q = sOf z j + t ∧ q < n ∧ W'.cell? ⟨cr j, t, none⟩ = some (pt (G q)) ∧ W'.cell? ⟨fb, q, none⟩ = some (pt (G q)) ∧ W'.cell? ⟨G q, 6, none⟩ = some (.int .i64 q) ∧ W'.cell? ⟨G q, 3, none⟩ = some (.int .i64 q) ∧ ao = some ⟨fb, 0, none⟩) := fun W' h t ht => by
              have R' := HR.out.chg h
              have hq : sOf z j + t < n := by rw [R'.hn]; have := HS.out; omega
              exact ⟨_, rfl, hq, R'.mem.row j hlt t ht, R'.flat _ hq, R'.mem.tab _ (by rw [← R'.hn]; exact hq), R'.data _ hq, by rcases R'.hao with h | h; omega; exact h⟩
            clear hcell hr0 R
            generalize mlOf z j = m at *
            go_upto_block 6 with fail
            clear ho hc1 hcell2
            generalize hsj : sOf z j = sj at *
            have HSJ := hid_mk hsj
            clear hsj
            have hgo : 0 < gk := by omega
            generalize hgg : gk = GK at *
            have HGK : Hid (j + GK = N ∧ 0 < GK) := ⟨hgk, hgo⟩
            clear hgg hgk hgo
            go_wp2_with fail
            go_loopg [19, 22] m (fun gk s19 s22 wr => ∃ t : Nat, t + gk = m ∧ s22 = .int .i64 t ∧ s19 = .int .i64 (sj + t : Nat) ∧ Chg [] W wr)
            case atStart => exact ⟨0, by omega, rfl, rfl, hch⟩
            case round =>
              clear hch
              obtain ⟨t, hgk', rfl, rfl, hch⟩ := hrel
              by_cases htm : t < m
              · obtain ⟨q, hq, hqn, d1, d2, d3, d4, hao⟩ := HRow.out wr hch t htm
                subst hao
                rw [← hq]
                have HQ := hid_mk hq
                clear hq
                have n1 := neq_same (some ⟨G q, 0, none⟩)
                have hti : (t : Int) < (m : Int) := by omega
                have hqi : (q : Int) < (n : Int) := by omega
                generalize G q = g at *
                go_wp2_with fail
                go_quiet (fail)
                clear d1 d2 d3 d4 n1
                go_wp2_with fail
                go_roundg (gk - 1)
                case rel => exact ⟨t + 1, by omega, by go_num, by have := HQ.out; rw [show ((sj + (t + 1) : Nat) : Int) = (q : Int) + 1 by omega], hch.drewN _⟩
                case measure => omega
              · obtain rfl : t = m := by omega
                clear htm hgk'
                go_wp2_with fail
                go_roundg (GK - 1)
                case rel => exact ⟨j + 1, by have := HGK.out; omega, by go_num, by rw [← HS.out.1], hch⟩
                case measure => have := HGK.out; omega
          · obtain rfl : j = N := by omega
            clear hlt hgk r0
            go_wp2_with fail
            go_ret
            exact ⟨rfl, by rw [HB.out]; exact hch.below HBel.out (by have := HBel.out.size; rw [← HB.out]; exact this) (by simp)⟩
end Go.Proofs.Ybulkdkvs.lawS5595CWhole

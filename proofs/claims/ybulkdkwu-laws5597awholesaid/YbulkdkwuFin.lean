import Derived.Test.YbulkdkwuReg6
namespace Go.Proofs.Ybulkdkwu.lawS5597AWhole
open Go.RowKit Go.Deep
set_option linter.unusedVariables false
set_option linter.unusedSimpArgs false

set_option maxRecDepth 100000 in
set_option maxHeartbeats 1000000 in
theorem wait_ok (pb : Nat) (ev : Value) (w : World) (h3 : w.cell? ⟨pb, 3, none⟩ = some (.chan none)) (h8 : w.cell? ⟨pb, 8, none⟩ = some ev) :
    Calls Yba.prog 11 #[pt pb] w fun e w' => e = .returned ev ∧ w' = w := by
  have hlen : ∀ W, (Builtin.len_ #[37] 3 #[.chan none]).run Yba.prog W = .ok (.int .i64 0) W := fun W => by
    simp [Builtin.len_, run_underlying Yba.underlying37]
    rfl
  go_enter Yba.func11, Yba.ntmps11
  go_wp2_with fail
  go_loopg [] 1 (fun gk wr => wr = w)
  case atStart => rfl
  case round =>
    subst hrel
    go_wp2_with fail
    go_ret
    exact ⟨rfl, rfl⟩

set_option maxRecDepth 100000 in
set_option maxHeartbeats 1000000 in
theorem tail_nil (pb : Nat) (w : World) (h6 : w.cell? ⟨pb, 6, none⟩ = some (.pointer none)) :
    Calls Yba.prog 12 #[pt pb] w fun e w' => e = .returned (.slice none 0 0) ∧ w' = w := by
  have hpn : ∀ W, (Op.equalIn 9999 39 (.pointer none) (.pointer none)).run Yba.prog W = .ok true W := fun W => run_equalIn_pointer_nil (P := Yba.prog) W 9998 39 none Yba.underlying39
  go_enter Yba.func12, Yba.ntmps12
  go_wp2_with fail
  go_ret
  exact ⟨rfl, rfl⟩

set_option maxRecDepth 100000 in
set_option maxHeartbeats 1000000 in
theorem tail_some (pb ch : Nat) (dv : Value) (w : World) (h6 : w.cell? ⟨pb, 6, none⟩ = some (pt ch)) (h0 : w.cell? ⟨ch, 0, none⟩ = some dv) :
    Calls Yba.prog 12 #[pt pb] w fun e w' => e = .returned dv ∧ w' = w := by
  go_enter Yba.func12, Yba.ntmps12
  go_wp2_with fail
  go_ret
  exact ⟨rfl, rfl⟩

set_option maxRecDepth 100000 in
set_option maxHeartbeats 1000000 in
theorem finish_err (bb pb t : Nat) (v : Value) (w : World) (h4 : w.cell? ⟨bb, 4, none⟩ = some (pt pb)) (h3 : w.cell? ⟨pb, 3, none⟩ = some (.chan none)) (h8 : w.cell? ⟨pb, 8, none⟩ = some (.iface t v)) :
    Calls Yba.prog 9 #[pt bb] w fun e w' => e = .returned (.tuple #[.slice none 0 0, .iface t v]) ∧ w' = w := by
  go_enter Yba.func9, Yba.ntmps9
  go_wp2_with (go_at_call 11; refine (wait_ok pb (.iface t v) w h3 h8).mono ?_; rintro e w' ⟨rfl, rfl⟩)
  go_ret2
  exact ⟨rfl, rfl⟩

/-- A slice that reads as these bytes. -/
def Bs (W : World) (v : Value) (n : Nat) (D : Nat → Int) : Prop :=
  ∃ p c, v = .slice p n c ∧ (n = 0 ∨ ∃ b o, p = some ⟨b, o, none⟩ ∧ ∀ i, i < n → W.cell? ⟨b, o + i, none⟩ = some (.int .u8 (D i)))
def nums (n : Nat) (D : Nat → Int) : List Int := (List.range n).map D
theorem Bs.conv {W : World} {v : Value} {n : Nat} {D : Nat → Int} (h : Bs W v n D) : (convert 23 9 v).run Yba.prog W = .ok (.string (strOfNums (nums n D))) W := by
  obtain ⟨p, c, rfl, h | ⟨b, o, rfl, h⟩⟩ := h
  · subst h
    rw [run_convert_bytes_string W 23 9 5 _ 0 c Yba.underlying23 Yba.underlying5 Yba.underlying9]
    cases p <;> simp [Conv.bytesToString, loadCells]
    all_goals rfl
  · refine run_convert_bytes_arg (P := Yba.prog) W 23 5 Yba.underlying23 Yba.underlying5 b o n c (nums n D) (by simp [nums]) (fun i hi => ?_) 9 Yba.underlying9
    rw [h i hi]
    simp [nums, hi]
theorem equal_bs {W : World} {v1 v2 : Value} {n : Nat} {D : Nat → Int} (h1 : Bs W v1 n D) (h2 : Bs W v2 n D) : Calls Yba.prog 10 #[v1, v2] W fun e w' => e = .returned (.bool true) ∧ w' = W :=
  equal_ok v1 v2 _ W h1.conv h2.conv

section
variable {bs ds lvb dsb bb cb logb fa fb pb k r L cd ns cs g base : Nat} {n F : Int} {sa ad : Option Addr} {fv : Value} {D D2 : Nat → Int} {w : World}

/-- What Finish leaves. -/
def FinPost (bs ds lvb dsb bb cb logb fa fb pb k r L cd ns cs g base : Nat) (n F : Int) (sa ad : Option Addr) (fv : Value) (D : Nat → Int) (w : World) (e : Ending) (w' : World) : Prop :=
  ∃ (a' : Option Addr) (c' : Nat) (w3 : World) (rv ev : Value), e = .returned (.tuple #[rv, ev]) ∧ w.heap.size ≤ w3.heap.size ∧ w'.ownsRow base 5 1 (.slice a' (k * ds) c') (k * ds) (bl (dig n ds bs D) (k * ds)) ∧
    Chg (bb :: cb :: logb :: (Value.slice sa ns cs).ownBlock.toList) w w' ∧ HandPost bs ds lvb dsb bb cb logb fa fb pb k n F (.slice a' (k * ds) c') fv (dig n ds bs D) w3 (.returned ev) w' ∧
    ((ev = fv ∧ rv = .slice none 0 0) ∨ (ev = .nilIface ∧ Bs w' rv r (fun t => D (k * bs + t)) ∧ (ad = none → rv = .slice none 0 0)))

set_option maxRecDepth 100000 in
set_option maxHeartbeats 4000000 in
theorem finish_ok (hn : 0 ≤ n ∧ n ≤ 18446744073709551615) (hds : 0 < ds ∧ ds ≤ 8) (hbs : 0 < bs ∧ bs ≤ 16) (hL : L = k * bs + r) (hr : r < bs) (hL2 : L ≤ 65536) (hcd : L ≤ cd)
    (hopen : (w.cell? ⟨pb, 6, none⟩ = some (.pointer none) ∧ L = 0 ∧ ad = none ∧ cd = 0) ∨ ∃ ch, w.cell? ⟨pb, 6, none⟩ = some (pt ch) ∧ w.cell? ⟨ch, 0, none⟩ = some (.slice ad L cd))
    (had0 : (ad = none ∧ L = 0 ∧ cd = 0) ∨ ad = some ⟨g, 0, none⟩) (hD : ∀ t, t < L → w.cell? ⟨g, t, none⟩ = some (.int .u8 (D t)) ∧ 0 ≤ D t ∧ D t ≤ 255) (hg : L = 0 ∨ g < w.heap.size)
    (hgs : (Value.slice sa ns cs).ownBlock ≠ some g) (hown : w.ownsRow base 5 1 (.slice sa ns cs) ns (bl D2 ns)) (hbase : base ≤ w.heap.size)
    (h3 : w.cell? ⟨pb, 3, none⟩ = some (.chan none)) (h8 : w.cell? ⟨pb, 8, none⟩ = some .nilIface) (hd : w.rowIs dsb 3 1 (fun _ => .int .i64 ds))
    (hb : w.rowIs bb 55 7 (bRow bs ds lvb dsb cb logb fa fb pb n (.slice sa ns cs))) (hc : w.rowIs cb 3 1 (fun _ => .int .i64 0)) (hl : w.rowIs logb 30 1 (fun _ => .slice none 0 0)) (hf : w.rowIs fa 3 1 (fun _ => .int .i64 F)) (hfv : w.rowIs fb 26 1 (fun _ => fv)) (hfc : fa ≠ cb) (hfi : ∃ t v, fv = .iface t v)
    (hgb : L = 0 ∨ (g ≠ bb ∧ g ≠ cb ∧ g ≠ logb)) :
    Calls Yba.prog 9 #[pt bb] w (FinPost bs ds lvb dsb bb cb logb fa fb pb k r L cd ns cs g base n F sa ad fv D w) := by
  obtain ⟨hn1, hn2⟩ := hn
  obtain ⟨hd1, hd2⟩ := hds
  obtain ⟨hb1, hb2⟩ := hbs
  have had : L = 0 ∨ ad = some ⟨g, 0, none⟩ := by
    rcases had0 with h | h
    · exact .inl h.2.1
    · exact .inr h
  -- the callees, ahead of the walk
  have hkb : k * bs ≤ 65536 := by omega
  have hkk : k ≤ 65536 := Nat.le_trans (Nat.le_mul_of_pos_right k hb1) hkb
  have hkd : k * ds ≤ 1000000 := by
    have : k * ds ≤ k * 8 := Nat.mul_le_mul_left _ hd2
    omega
  have hk0 : k = 0 ∨ L ≠ 0 := by
    by_cases h : k = 0
    · exact .inl h
    · have : 0 < k * bs := Nat.mul_pos (by omega) hb1
      exact .inr (by omega)
  have hown0 : w.ownsRow base 5 1 (.slice sa 0 cs) 0 [] := by
    refine ⟨rfl, ?_⟩
    rcases hown.2 with ⟨h1, h2⟩ | ⟨g1, c1, cur, h1, h2, h4, h5, h6, h7, h9⟩
    · injection h1 with h1 h1b h1c
      subst h1; subst h1c
      exact .inl ⟨rfl, rfl⟩
    · injection h1 with h1 h1b h1c
      subst h1; subst h1c
      exact .inr ⟨g1, cs, cur, rfl, h2, h4, Nat.zero_le _, h6, h7, by simp⟩
  have hob : (Value.slice sa 0 cs).ownBlock = (Value.slice sa ns cs).ownBlock := by cases sa <;> rfl
  have hdne : (Value.slice sa ns cs).ownBlock ≠ some dsb := own_row_apart hown hd (by decide)
  have hbne : (Value.slice sa ns cs).ownBlock ≠ some bb := own_row_apart hown hb (by decide)
  have hwait := wait_ok pb .nilIface w h3 h8
  have htail : Calls Yba.prog 12 #[pt pb] w fun e w' => e = .returned (.slice ad L cd) ∧ w' = w := by
    rcases hopen with ⟨h6, rfl, rfl, rfl⟩ | ⟨ch, h6, h0⟩
    · exact tail_nil pb w h6
    · exact tail_some pb ch _ w h6 h0
  have happ : Calls Yba.prog 13 #[.func (.func 6) #[] #[pt lvb, pt dsb], .slice sa 0 cs, .int .u64 n, .slice ad (k * bs) cd, .int .i64 bs] w.drew fun e w' =>
      ∃ (a' : Option Addr) (c' : Nat), e = .returned (.slice a' (k * ds) c') ∧ w'.ownsRow base 5 1 (.slice a' (k * ds) c') (k * ds) (bl (dig n ds bs D) (k * ds)) ∧ Chg (Value.slice sa ns cs).ownBlock.toList w w' := by
    refine (append_ok n k ds bs g cd lvb dsb base cs sa ad D w.drew ⟨hn1, hn2⟩ ⟨hd1, hd2⟩ ⟨hb1, hb2⟩ hkb (by rcases hk0 with h | h; exact .inl h; rcases had with h2 | h2; exact absurd h2 h; exact .inr h2) (by omega) (fun t ht => hD t (by omega)) (hd.cell (i := 0) (by omega)) hown0 (by rw [hob]; exact hgs) (by rw [hob]; exact hdne) (by rcases hk0 with h | h; exact .inl h; rcases hg with h2 | h2; exact absurd h2 h; exact .inr h2) hd.lt hbase).mono ?_
    rintro e w' ⟨a', c', rfl, h1, h2, _⟩
    rw [hob] at h2
    exact ⟨a', c', rfl, h1, ((Chg.refl [] w).drew).trans h2⟩
  -- handOver, in the world behind the store
  have hhand : ∀ w2 a' c', Chg (Value.slice sa ns cs).ownBlock.toList w w2 → w2.ownsRow base 5 1 (.slice a' (k * ds) c') (k * ds) (bl (dig n ds bs D) (k * ds)) →
      ∀ W, W = w2.setCell ⟨bb, 6, none⟩ (.slice a' (k * ds) c') → W.cell? ⟨bb, 6, none⟩ = some (.slice a' (k * ds) c') ∧ Chg (bb :: (Value.slice sa ns cs).ownBlock.toList) w W ∧ W.ownsRow base 5 1 (.slice a' (k * ds) c') (k * ds) (bl (dig n ds bs D) (k * ds)) ∧ (∀ x, x = bb ∨ x = cb ∨ x = logb → (Value.slice a' (k * ds) c').ownBlock ≠ some x) ∧
        Calls Yba.prog 14 #[pt bb, .slice a' (k * ds) c'] W (HandPost bs ds lvb dsb bb cb logb fa fb pb k n F (.slice a' (k * ds) c') fv (dig n ds bs D) W) := by
    rintro w2 a' c' hch ho W rfl
    have hno : ∀ {b t m : Nat} {f : Nat → Value}, w.rowIs b t m f → t ≠ 5 → b ∉ (Value.slice sa ns cs).ownBlock.toList := fun hr ht hm => by
      rw [Option.mem_toList] at hm
      exact own_row_apart hown hr (fun e => ht e.symm) hm
    have b2 := hch.row hb (hno hb (by decide))
    have c2 := hch.row hc (hno hc (by decide))
    have l2 := hch.row hl (hno hl (by decide))
    have f2 := hch.row hf (hno hf (by decide))
    have v2 := hch.row hfv (hno hfv (by decide))
    have b3 : (w2.setCell ⟨bb, 6, none⟩ (.slice a' (k * ds) c')).rowIs bb 55 7 (bRow bs ds lvb dsb cb logb fa fb pb ((n + ((0 : Nat) : Int)) % 18446744073709551616) (.slice a' (k * ds) c')) := by
      refine (b2.set 6 _).congr (fun t ht => ?_)
      have e : (n + ((0 : Nat) : Int)) % 18446744073709551616 = n := by omega
      rw [e]
      by_cases h6 : t = 6
      · subst h6; rfl
      · rw [if_neg h6]
        unfold bRow
        have : t = 0 ∨ t = 1 ∨ t = 2 ∨ t = 3 ∨ t = 4 ∨ t = 5 := by omega
        rcases this with rfl | rfl | rfl | rfl | rfl | rfl <;> rfl
    have o3 := own_setCell ho ⟨bb, 6, none⟩ (.slice a' (k * ds) c') (fun x hx e => own_row_apart ho b2 (by decide) (by rw [hx, e]))
    refine ⟨by rw [b3.cell (i := 6) (by omega)]; rfl, ((hch.mono (L' := bb :: (Value.slice sa ns cs).ownBlock.toList) (by intro x hx _; simp at hx ⊢; exact .inr hx)).setCell _ _ (by simp)), o3, ?_, ?_⟩
    · intro x hx
      rcases hx with rfl | rfl | rfl
      · exact own_row_apart o3 b3 (by decide)
      · exact own_row_apart o3 (c2.setOther (a := ⟨bb, 6, none⟩) (by exact row_ne c2 b2 (by decide)) (.slice a' (k * ds) c')) (by decide)
      · exact own_row_apart o3 (l2.setOther (a := ⟨bb, 6, none⟩) (by exact row_ne l2 b2 (by decide)) (.slice a' (k * ds) c')) (by decide)
    obtain ⟨g0, hg0, hcells⟩ : ∃ g0, (k * ds = 0 ∨ a' = some ⟨g0, 0, none⟩) ∧ ∀ q, q < k * ds → (w2.setCell ⟨bb, 6, none⟩ (.slice a' (k * ds) c')).cell? ⟨g0, q, none⟩ = some (.int .u8 (dig n ds bs D q)) := by
      rcases o3.2 with ⟨h1, h2⟩ | ⟨g1, c1, cur, h1, _⟩
      · exact ⟨0, .inl h2, fun q hq => by omega⟩
      · injection h1 with h1 _ h1c
        subst h1; subst h1c
        refine ⟨g1, .inr rfl, fun q hq => ?_⟩
        rw [o3.cellAt q (by omega)]
        exact bl_get _ hq
    have hk1 : k = 0 ∨ k * ds ≠ 0 := by
      by_cases h : k = 0
      · exact .inl h
      · exact .inr (by have : 0 < k * ds := Nat.mul_pos (by omega) hd1; omega)
    have c3 := c2.setOther (a := ⟨bb, 6, none⟩) (by exact row_ne c2 b2 (by decide)) (.slice a' (k * ds) c')
    have l3 := l2.setOther (a := ⟨bb, 6, none⟩) (by exact row_ne l2 b2 (by decide)) (.slice a' (k * ds) c')
    have f3 := f2.setOther (a := ⟨bb, 6, none⟩) (by exact row_ne f2 b2 (by decide)) (.slice a' (k * ds) c')
    have v3 := v2.setOther (a := ⟨bb, 6, none⟩) (by exact row_ne v2 b2 (by decide)) (.slice a' (k * ds) c')
    refine hand_ok g0 c' a' ⟨hn1, hn2⟩ ⟨hd1, hd2⟩ hkd hkk ?_ (by rcases hk1 with h | h; exact .inl h; rcases hg0 with h2 | h2; exact absurd h2 h; exact .inr h2) hcells ?_ hfi ⟨b3, c3, l3, World.ownsRow_nil _ _ _ _, rfl, by simp, f3, v3, hfc, Chg.refl _ _⟩
    · rcases o3.2 with ⟨h1, h2⟩ | ⟨g1, c1, cur, h1, _, _, h2, _⟩
      · omega
      · injection h1 with _ _ h1c
        omega
    · rcases hk1 with h | h
      · exact .inl h
      · rcases hg0 with h2 | h2
        · exact absurd h2 h
        · subst h2
          refine .inr ⟨?_, ?_, ?_⟩
          · rintro rfl; exact own_row_apart o3 b3 (by decide) rfl
          · rintro rfl; exact own_row_apart o3 c3 (by decide) rfl
          · rintro rfl; exact own_row_apart o3 l3 (by decide) rfl
  have hrest : ∀ W rv, Chg (bb :: cb :: logb :: (Value.slice sa ns cs).ownBlock.toList) w W → (∃ p, rv = .slice p r (cd - k * bs) ∧ (r = 0 ∨ p = ad.map (fun x => x.add (k * bs)))) → Bs W rv r (fun t => D (k * bs + t)) := by
    rintro W rv hch ⟨p, rfl, hp⟩
    refine ⟨p, _, rfl, ?_⟩
    by_cases hr0 : r = 0
    · exact .inl hr0
    · rcases hp with hp | hp
      · exact absurd hp hr0
      · rcases had with h | h
        · omega
        · subst h
          refine .inr ⟨g, k * bs, by rw [hp]; simp [Go.WideShapes.add_plain], fun i hi => hch.cell (hD _ (by omega)).1 ?_⟩
          rcases hgb with h2 | ⟨h2, h4, h5⟩
          · omega
          · simp only [List.mem_cons, Option.mem_toList, not_or]
            exact ⟨h2, h4, h5, hgs⟩
  have c4 : w.cell? ⟨bb, 4, none⟩ = some (pt pb) := hb.cell (i := 4) (by omega)
  have c0 : w.cell? ⟨bb, 0, none⟩ = some (.int .i64 bs) := hb.cell (i := 0) (by omega)
  have c2 : w.cell? ⟨bb, 2, none⟩ = some (.func (.func 6) #[] #[pt lvb, pt dsb]) := hb.cell (i := 2) (by omega)
  have c5 : w.cell? ⟨bb, 5, none⟩ = some (.int .u64 n) := hb.cell (i := 5) (by omega)
  have c6 : w.cell? ⟨bb, 6, none⟩ = some (.slice sa ns cs) := hb.cell (i := 6) (by omega)
  have hkeep : ∀ w2, Chg (Value.slice sa ns cs).ownBlock.toList w w2 → w2.rowIs bb 55 7 (bRow bs ds lvb dsb cb logb fa fb pb n (.slice sa ns cs)) := fun w2 h => h.row hb (by rw [Option.mem_toList]; exact hbne)
  have hns : ns ≤ cs ∧ (sa = none → cs = 0) := by
    rcases hown.2 with ⟨h1, h2⟩ | ⟨g1, c1, cur, h1, _, _, h2, _⟩
    · injection h1 with h1 h1b h1c
      exact ⟨by omega, fun _ => h1c⟩
    · injection h1 with h1 _ h1c
      exact ⟨by omega, fun h => by rw [h] at h1; cases h1⟩
  have hsz3 : ∀ w2, Chg (Value.slice sa ns cs).ownBlock.toList w w2 → ∀ v, w.heap.size ≤ (w2.setCell ⟨bb, 6, none⟩ v).heap.size := fun w2 h v => by rw [nblk_setCell]; exact h.size
  have hrem : (L : Int) % (bs : Int) = (r : Int) := by
    rw [hL]
    have : ((k * bs + r : Nat) : Int) % (bs : Int) = ((k * bs + r) % bs : Nat) := by omega
    rw [this, Nat.mul_comm, Nat.mul_add_mod, Nat.mod_eq_of_lt hr]
  have hsub : (L : Int) - (r : Int) = ((k * bs : Nat) : Int) := by omega
  have hLr : L - k * bs = r := by omega
  have hKL : k * bs ≤ L := by omega
  have HH := hid_mk hhand
  have HR := hid_mk hrest
  have HK := hid_mk hkeep
  have HS3 := hid_mk hsz3
  have hsa : (sa = none ∧ ns = 0 ∧ cs = 0) ∨ ∃ g1, sa = some ⟨g1, 0, none⟩ := by
    rcases hown.2 with ⟨h1, h2⟩ | ⟨g1, c1, cur, h1, _⟩
    · injection h1 with h1 h1b h1c
      exact .inl ⟨h1, h1b, h1c⟩
    · injection h1 with h1 _ h1c
      exact .inr ⟨g1, h1⟩
  clear hhand hrest hkeep hsz3 hopen had hD hg hgs hown hd hb hc hl hf hfv hfc hgb hown0 hob hdne hbne h3 h8 hL hk0
  have hbz : ¬ ((bs : Int) = 0) := by omega
  generalize hKB : k * bs = kb at *
  obtain ⟨hns1, hns2⟩ := hns
  have m0 : ∀ a : Option Addr, a = none ∨ (∃ g2, a = some ⟨g2, 0, none⟩) → Option.map (fun x => x.add 0) a = a := fun a h => by
    rcases h with rfl | ⟨g2, rfl⟩ <;> simp [Addr.add]
  have h0a : Option.map (fun x => x.add 0) sa = sa := m0 sa (by rcases hsa with h | h; exact .inl h.1; exact .inr h)
  have h0b : Option.map (fun x => x.add 0) ad = ad := m0 ad (by rcases had0 with h | h; exact .inl h.1; exact .inr ⟨g, h⟩)
  have i1 : (0 : Int) ≤ (kb : Int) := by omega
  have i2 : (kb : Int) ≤ (cd : Int) := by omega
  have i3 : (kb : Int) ≤ (L : Int) := by omega
  have i4 : (0 : Int) ≤ (cs : Int) := by omega
  have HSA := hid_mk (And.intro hsa had0)
  clear hns2 m0 hsa had0
  go_enter Yba.func9, Yba.ntmps9
  go_wp2_with (first | (go_at_call 11; refine hwait.mono ?_; rintro e w' ⟨rfl, rfl⟩) | (go_at_call 12; refine htail.mono ?_; rintro e w' ⟨rfl, rfl⟩))
  clear hwait htail c4
  refine reg6 _ _ _ _ _ _ _ _ _ _ _ _ _ _ _ _ _ _ _ _ _ _ _ _ _ _ _ _ _ _ _ _ _ _ _ _ _ _ _ _ _ _ _ _ _ _ _ _ _ _ _ _ _ _ _ _ _ _ _ _ _ _ _ _ bs ds lvb dsb bb cb logb fa fb pb k L cd ns cs base kb n sa ad D w' _ hns1 hcd hKL h0a h0b c0 c2 c5 c6 HK.out happ ?_
  rintro v31 v32 v33 v34 v35 v36 v37 v38 v39 v40 v41 v42 v43 v44 v45 v46 v47 v48 v49 v50 v51 v52 v53 v54 a' c' w2 ho2 hch2
  clear happ c0 c2 c5 c6
  generalize hW : w2.setCell ⟨bb, 6, none⟩ (.slice a' (k * ds) c') = W3
  obtain ⟨k6, hchW, hoW, hapart, hhand⟩ := HH.out w2 a' c' hch2 ho2 W3 hW.symm
  have HF : Hid (∀ w4, Chg [bb, cb, logb] W3 w4 → w'.heap.size ≤ W3.heap.size ∧ w4.ownsRow base 5 1 (.slice a' (k * ds) c') (k * ds) (bl (dig n ds bs D) (k * ds)) ∧ Chg (bb :: cb :: logb :: (Value.slice sa ns cs).ownBlock.toList) w' w4) := fun w4 h4 => by
    refine ⟨hchW.size, h4.own hoW ?_, (hchW.trans h4).mono ?_⟩
    · intro x hx hm
      refine hapart x ?_ hx
      simpa using hm
    · intro x hx _
      simp only [List.mem_append, List.mem_cons, List.not_mem_nil, or_false] at hx ⊢
      rcases hx with (h | h) | h | h | h
      · exact .inl h
      · exact .inr (.inr (.inr h))
      · exact .inl h
      · exact .inr (.inl h)
      · exact .inr (.inr (.inl h))
  clear ho2 hch2 hW HH HK HS3 hchW hoW hapart
  go_wp2_with fail
  refine hhand.mono ?_
  intro e w4 hp
  have hp0 := hid_mk hp
  obtain ⟨lv, LS, ⟨rfl, f, hf1, hf2, hst⟩ | ⟨rfl, hnf, hst⟩⟩ := hp
  · obtain ⟨hs1, hs2, hs3⟩ := HF.out w4 hst.chg
    obtain ⟨t, v, rfl⟩ := hfi
    clear hst hhand HF HR k6 HSA
    go_wp2_with fail
    go_ret2
    exact ⟨a', c', W3, _, _, rfl, hs1, hs2, hs3, hp0.out, .inl ⟨rfl, rfl⟩⟩
  · obtain ⟨hs1, hs2, hs3⟩ := HF.out w4 hst.chg
    clear hst hhand HF k6
    by_cases hck : cd = kb
    · have hr0 : r = 0 := by omega
      have hb5 := HR.out w4 (.slice ad r (cd - kb)) hs3 ⟨ad, rfl, .inl hr0⟩
      have HB5 := hid_mk hb5
      have HE := hid_mk (And.intro hck hr0)
      clear hb5 hr0 HR hck
      have hck2 : (cd = kb) = True := by simp [HE.out.1]
      go_wp2_with fail
      go_ret2
      exact ⟨a', c', W3, _, _, rfl, hs1, hs2, hs3, hp0.out, .inr ⟨rfl, by rw [hKB]; exact HB5.out, fun h => by
        show Value.slice ad r (cd - kb) = _
        rcases HSA.out.2 with ⟨_, h2, h3⟩ | h2
        · rw [h, HE.out.2, h3, Nat.zero_sub]
        · rw [h] at h2; cases h2⟩⟩
    · have hb5 := HR.out w4 (.slice (ad.map (fun x => x.add kb)) r (cd - kb)) hs3 ⟨_, rfl, .inr rfl⟩
      have HB5 := hid_mk hb5
      clear hb5 HR
      go_wp2_with fail
      go_ret2
      exact ⟨a', c', W3, _, _, rfl, hs1, hs2, hs3, hp0.out, .inr ⟨rfl, by rw [hKB]; exact HB5.out, fun h => by
        rcases HSA.out.2 with ⟨_, h2, h3⟩ | h2
        · omega
        · rw [h] at h2; cases h2⟩⟩
end
end Go.Proofs.Ybulkdkwu.lawS5597AWhole

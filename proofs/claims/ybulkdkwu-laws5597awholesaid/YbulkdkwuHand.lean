import Derived.Test.YbulkdkwuLog
import Derived.Deep.RegionHeld3
namespace Go.Proofs.Ybulkdkwu.lawS5597AWhole
open Go.RowKit Go.Deep
set_option linter.unusedVariables false
set_option linter.unusedSimpArgs false

/-- The BlockDigests. -/
def bRow (bs ds lvb dsb cb logb fa fb pb : Nat) (n : Int) (tv : Value) (t : Nat) : Value :=
  if t = 0 then .int .i64 bs else if t = 1 then .int .i64 ds else if t = 2 then .func (.func 6) #[] #[pt lvb, pt dsb] else if t = 3 then .func (.func 8) #[] #[pt cb, pt logb, pt fa, pt fb]
  else if t = 4 then pt pb else if t = 5 then .int .u64 n else tv

/-- Behind i calls of digest. -/
structure Hst (bs ds lvb dsb bb cb logb fa fb pb k : Nat) (n F : Int) (tv fv lv : Value) (V : Nat → Int) (LS : List Lg) (i nn : Nat) (w wr : World) : Prop where
  b : wr.rowIs bb 55 7 (bRow bs ds lvb dsb cb logb fa fb pb ((n + (nn : Nat)) % 18446744073709551616) tv)
  c : wr.rowIs cb 3 1 (fun _ => .int .i64 (i : Nat))
  l : wr.rowIs logb 30 1 (fun _ => lv)
  log : wr.ownsRow w.heap.size 32 2 lv i (flat (encG ds) LS)
  len : LS.length = i
  ent : ∀ t x, LS[t]? = some x → x.ix = (n + (t : Nat)) % 18446744073709551616 ∧ wr.ownsRow w.heap.size 5 1 (.slice (some ⟨x.g, 0, none⟩) ds x.c) ds (bl (fun j => V (t * ds + j)) ds)
  f : wr.rowIs fa 3 1 (fun _ => .int .i64 F)
  fv : wr.rowIs fb 26 1 (fun _ => fv)
  fc : fa ≠ cb
  chg : Chg [bb, cb, logb] w wr

section
variable {bs ds lvb dsb bb cb logb fa fb pb k : Nat} {n F : Int} {tv fv lv : Value} {V : Nat → Int} {LS : List Lg} {i nn : Nat} {w wr w2 : World}

theorem Hst.next (h : Hst bs ds lvb dsb bb cb logb fa fb pb k n F tv fv lv V LS i nn w wr) {e : Ending} (hp : LogPost ((n + (i : Nat)) % 18446744073709551616) F i ds cb logb w.heap.size lv fv LS (fun j => V (i * ds + j)) wr e w2) :
    e = .returned (if (i : Int) = F then fv else .nilIface) ∧ ∃ gl cl x, Hst bs ds lvb dsb bb cb logb fa fb pb k n F tv fv (.slice (some ⟨gl, 0, none⟩) (i + 1) cl) V (LS ++ [x]) (i + 1) nn w w2 := by
  obtain ⟨gl, cl, gd, cd, he, hc, hl, hlog, hd, hch⟩ := hp
  have hout : ∀ (b t m : Nat) (f : Nat → Value), wr.rowIs b t m f → b ≠ cb → b ≠ logb → t ≠ 32 → b ∉ cb :: logb :: lv.ownBlock.toList := by
    intro b t m f hr h1 h2 h3 hm
    simp only [List.mem_cons, Option.mem_toList] at hm
    rcases hm with hm | hm | hm
    · exact h1 hm
    · exact h2 hm
    · exact own_row_apart h.log hr (fun e => h3 e.symm) hm
  have hown : ∀ g, lv.ownBlock = some g → w.heap.size ≤ g := fun g hg => (h.log.lt g hg).1
  refine ⟨he, gl, cl, ⟨(n + (i : Nat)) % 18446744073709551616, gd, cd⟩, hch.row h.b (hout _ _ _ _ h.b (row_ne h.b h.c (by decide)) (row_ne h.b h.l (by decide)) (by decide)), hc, hl, hlog, by simp [h.len], ?_, hch.row h.f (hout _ _ _ _ h.f h.fc (row_ne h.f h.l (by decide)) (by decide)), hch.row h.fv (hout _ _ _ _ h.fv (row_ne h.fv h.c (by decide)) (row_ne h.fv h.l (by decide)) (by decide)), h.fc, h.chg.step hch ?_⟩
  · intro t x hx
    rw [List.getElem?_append] at hx
    split at hx
    · obtain ⟨h1, h2⟩ := h.ent t x hx
      refine ⟨h1, hch.own h2 ?_⟩
      intro g hg hm
      simp only [List.mem_cons, Option.mem_toList] at hm
      rcases hm with hm | hm | hm
      · rw [hm] at hg; exact own_row_apart h2 h.c (by decide) hg
      · rw [hm] at hg; exact own_row_apart h2 h.l (by decide) hg
      · exact own_apart h.log h2 (by decide) hm hg
    · rename_i hi
      have hi2 : t = i := by
        have := h.len
        rcases Nat.lt_or_ge (t - LS.length) 1 with h | h
        · omega
        · rw [List.getElem?_eq_none (by simpa using h)] at hx; cases hx
      subst hi2
      rw [h.len] at hx
      simp at hx
      subst hx
      refine ⟨rfl, hd.1, ?_⟩
      rcases hd.2 with h5 | ⟨g5, c5, cur5, e5, l5, r5⟩
      · exact .inl h5
      · exact .inr ⟨g5, c5, cur5, e5, Nat.le_trans h.chg.size l5, r5⟩
  · intro x hx hlt
    simp only [List.mem_cons, Option.mem_toList] at hx
    rcases hx with hx | hx | hx
    · simp [hx]
    · simp [hx]
    · have := hown x hx
      omega

theorem Hst.drew (h : Hst bs ds lvb dsb bb cb logb fa fb pb k n F tv fv lv V LS i nn w wr) : Hst bs ds lvb dsb bb cb logb fa fb pb k n F tv fv lv V LS i nn w wr.drew :=
  ⟨h.b, h.c, h.l, h.log, h.len, h.ent, h.f, h.fv, h.fc, h.chg.drew⟩

/-- b.n++. -/
theorem Hst.bump (h : Hst bs ds lvb dsb bb cb logb fa fb pb k n F tv fv lv V LS i nn w wr) (v : Int) (hv : v = (n + ((nn + 1 : Nat) : Int)) % 18446744073709551616) : Hst bs ds lvb dsb bb cb logb fa fb pb k n F tv fv lv V LS i (nn + 1) w (wr.setCell ⟨bb, 5, none⟩ (.int .u64 v)) := by
  refine ⟨(h.b.set 5 _).congr (fun t ht => ?_), h.c.setOther (by exact (row_ne h.c h.b (by decide))) _, h.l.setOther (by exact (row_ne h.l h.b (by decide))) _, own_setCell h.log _ _ (fun g hg e => own_row_apart h.log h.b (by decide) (by rw [hg, e])), h.len, fun t x hx => ⟨(h.ent t x hx).1, own_setCell (h.ent t x hx).2 _ _ (fun g hg e => own_row_apart (h.ent t x hx).2 h.b (by decide) (by rw [hg, e]))⟩, h.f.setOther (by exact (row_ne h.f h.b (by decide))) _, h.fv.setOther (by exact (row_ne h.fv h.b (by decide))) _, h.fc, h.chg.setCell _ _ (by simp)⟩
  unfold bRow
  by_cases h5 : t = 5
  · subst h5
    simp [hv]
  · simp [h5]

/-- What handOver leaves. -/
def HandPost (bs ds lvb dsb bb cb logb fa fb pb k : Nat) (n F : Int) (tv fv : Value) (V : Nat → Int) (w : World) (e : Ending) (w' : World) : Prop :=
  ∃ (lv : Value) (LS : List Lg), (e = .returned fv ∧ ∃ f : Nat, F = f ∧ f < k ∧ Hst bs ds lvb dsb bb cb logb fa fb pb k n F tv fv lv V LS (f + 1) f w w') ∨ (e = .returned .nilIface ∧ ¬ (0 ≤ F ∧ F < k) ∧ Hst bs ds lvb dsb bb cb logb fa fb pb k n F tv fv lv V LS k k w w')

set_option maxRecDepth 100000 in
set_option maxHeartbeats 4000000 in
theorem hand_ok (g0 cap : Nat) (ad : Option Addr) (hn : 0 ≤ n ∧ n ≤ 18446744073709551615) (hds : 0 < ds ∧ ds ≤ 8) (hk : k * ds ≤ 1000000) (hkk : k ≤ 65536) (hcap : k * ds ≤ cap) (had : k = 0 ∨ ad = some ⟨g0, 0, none⟩) (hV : ∀ q, q < k * ds → w.cell? ⟨g0, q, none⟩ = some (.int .u8 (V q))) (hg0 : k = 0 ∨ (g0 ≠ bb ∧ g0 ≠ cb ∧ g0 ≠ logb)) (hfv : ∃ t v, fv = .iface t v)
    (h0 : Hst bs ds lvb dsb bb cb logb fa fb pb k n F tv fv (.slice none 0 0) V [] 0 0 w w) :
    Calls Yba.prog 14 #[pt bb, .slice ad (k * ds) cap] w (HandPost bs ds lvb dsb bb cb logb fa fb pb k n F tv fv V w) := by
  obtain ⟨hd1, hd2⟩ := hds
  have HV := hid_mk hV
  have H0 := hid_mk h0
  have HN := hid_mk hn
  clear hV h0 hn
  go_enter Yba.func14, Yba.ntmps14
  go_wp2_with fail
  go_loopg [5, 6] k (fun gk s5 s6 wr => ∃ (i : Nat) (a : Option Addr) (c : Nat) (LS : List Lg), i + gk = k ∧ s5 = .int .i64 (i * ds : Nat) ∧ (∀ f : Nat, F = f → i ≤ f) ∧ (i = 0 → a = none) ∧ Hst bs ds lvb dsb bb cb logb fa fb pb k n F tv fv (.slice a i c) V LS i i w wr)
  case atStart => exact ⟨0, none, 0, [], by omega, by simp, fun _ _ => Nat.zero_le _, fun _ => rfl, H0.out⟩
  case round =>
    obtain ⟨i, a, c, LS, hgk, rfl, hF, ha, h⟩ := hrel
    have hcd : wr.cell? ⟨bb, 1, none⟩ = some (.int .i64 ds) := h.b.cell (i := 1) (by omega)
    by_cases hi : i < k
    · rcases had with had | rfl
      · omega
      rcases hg0 with hg0 | ⟨hg1, hg2, hg3⟩
      · omega
      have hid : i * ds + ds ≤ k * ds := by rw [← Nat.succ_mul]; exact Nat.mul_le_mul_right _ hi
      have hc8 : Calls Yba.prog 8 #[.int .u64 ((n + (i : Nat)) % 18446744073709551616), .slice (some ⟨g0, i * ds, none⟩) ds (cap - i * ds), pt cb, pt logb, pt fa, pt fb] wr.drew fun e w2 =>
          e = .returned (if (i : Int) = F then fv else .nilIface) ∧ ∃ gl cl x, Hst bs ds lvb dsb bb cb logb fa fb pb k n F tv fv (.slice (some ⟨gl, 0, none⟩) (i + 1) cl) V (LS ++ [x]) (i + 1) i w w2 :=
        (log_ok ((n + (i : Nat)) % 18446744073709551616) F i g0 (i * ds) (cap - i * ds) ds cb logb fa fb w.heap.size (.slice a i c) fv a c LS (fun j => V (i * ds + j)) wr.drew ⟨hd1, hd2⟩ (by omega) rfl (fun j hj => h.chg.drew.cell (HV.out _ (by omega)) (by simp; exact ⟨hg1, hg2, hg3⟩)) hg2 h.c h.l (row_ne h.c h.l (by decide)) h.log h.chg.size h.f h.fc h.fv).mono fun e w2 hp => h.drew.next hp
      have hc3 : wr.cell? ⟨bb, 3, none⟩ = some (.func (.func 8) #[] #[pt cb, pt logb, pt fa, pt fb]) := h.b.cell (i := 3) (by omega)
      have hc5 : wr.cell? ⟨bb, 5, none⟩ = some (.int .u64 ((n + (i : Nat)) % 18446744073709551616)) := h.b.cell (i := 5) (by omega)
      have HNx := hid_mk (And.intro (show 0 ≤ (n + (i : Nat)) % 18446744073709551616 by omega) (show (n + (i : Nat)) % 18446744073709551616 ≤ 18446744073709551615 by omega))
      generalize hID : i * ds = id at *
      generalize hKD : k * ds = kd at *
      have HID := hid_mk (And.intro hID hKD)
      have hlt2 : (id : Int) < (kd : Int) := by omega
      have hw1 : IntKind.i64.wrap ((id : Int) + (ds : Int)) = (id : Int) + (ds : Int) := by rw [IntKind.wrap_i64]; omega
      have hw2 : (id : Int) + (ds : Int) ≤ (kd : Int) := by omega
      have hw3 : (kd : Int) ≤ (cap : Int) := by omega
      clear hID hKD
      have hidd : id + ds - id = ds := by omega
      have h8 := hid_mk h
      clear h
      by_cases hiF : (i : Int) = F
      · simp only [if_pos hiF] at hc8
        obtain ⟨t, v, rfl⟩ := hfv
        have HiF := hid_mk hiF
        clear hiF
        go_upto_region 4 with fail
        go_region_held (fun w' => w'.cell? ⟨bb, 3, none⟩ = some (.func (.func 8) #[] #[pt cb, pt logb, pt fa, pt fb]) ∧ w'.cell? ⟨bb, 5, none⟩ = some (.int .u64 ((n + (i : Nat)) % 18446744073709551616)) ∧ w'.cell? ⟨bb, 1, none⟩ = some (.int .i64 ds)) (first | exact ⟨hc3, hc5, hcd⟩ | exact ⟨h2.b.cell (i := 3) (by omega), h2.b.cell (i := 5) (by omega), h2.b.cell (i := 1) (by omega)⟩) (first | (go_at_call 8; refine hc8.mono ?_; rintro e w2 ⟨rfl, gl, cl, x, h2⟩))
        have k5 : w2.cell? ⟨bb, 5, none⟩ = some (.int .u64 ((n + (i : Nat)) % 18446744073709551616)) := h2.b.cell (i := 5) (by omega)
        have H2 := hid_mk h2
        clear hc8 hc3 hc5 hcd h2 k5
        go_wp2_with fail
        go_ret
        have e2 := HiF.out
        exact ⟨_, _, .inl ⟨rfl, i, e2.symm, hi, H2.out⟩⟩
      · simp only [if_neg hiF] at hc8
        go_upto_region 4 with fail
        go_region_held (fun w' => w'.cell? ⟨bb, 3, none⟩ = some (.func (.func 8) #[] #[pt cb, pt logb, pt fa, pt fb]) ∧ w'.cell? ⟨bb, 5, none⟩ = some (.int .u64 ((n + (i : Nat)) % 18446744073709551616)) ∧ w'.cell? ⟨bb, 1, none⟩ = some (.int .i64 ds)) (first | exact ⟨hc3, hc5, hcd⟩ | exact ⟨h2.b.cell (i := 3) (by omega), h2.b.cell (i := 5) (by omega), h2.b.cell (i := 1) (by omega)⟩) (first | (go_at_call 8; refine hc8.mono ?_; rintro e w2 ⟨rfl, gl, cl, x, h2⟩))
        have k5 : w2.cell? ⟨bb, 5, none⟩ = some (.int .u64 ((n + (i : Nat)) % 18446744073709551616)) := h2.b.cell (i := 5) (by omega)
        have k6 := h2.b.frozen 5
        have k1 : ∀ v, (w2.setCell ⟨bb, 5, none⟩ v).cell? ⟨bb, 1, none⟩ = some (.int .i64 ds) := fun v => by rw [(h2.b.set 5 v).cell (i := 1) (by omega)]; rfl
        have H2 := hid_mk h2
        obtain ⟨hx1, hx2⟩ := HNx.out
        clear hc8 hc3 hc5 hcd h2
        go_wp2_with fail
        go_roundg (gk - 1)
        case rel =>
          obtain ⟨e1, e2⟩ := HID.out
          refine ⟨i + 1, _, cl, _, by omega, by rw [Nat.succ_mul, e1]; go_num, fun f hf => ?_, by omega, H2.out.bump _ ?_⟩
          · have := hF f hf
            have : i ≠ f := fun e => hiF (by rw [hf, e])
            omega
          · have := HN.out
            rw [IntKind.wrap_u64]
            omega
        case measure => omega
    · obtain rfl : i = k := by omega
      have H2 := hid_mk h
      clear hi hgk h
      go_wp2_with fail
      go_ret
      exact ⟨_, _, .inr ⟨rfl, fun hh => by have := hF F.toNat (by omega); omega, H2.out⟩⟩
end
end Go.Proofs.Ybulkdkwu.lawS5597AWhole

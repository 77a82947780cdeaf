import Derived.Test.YbulkdkwuZed
namespace Go.Proofs.Ybulkdkwu.lawS5597AWhole
open Go.RowKit Go.Deep
set_option linter.unusedVariables false
set_option linter.unusedSimpArgs false

section
variable {bs ds lvb dsb bb cb logb fa fb pb k stop nn : Nat} {n F : Int} {tv fv lv : Value} {V D : Nat → Int} {LS : List Lg} {w3 W : World}

/-- What the law's end reads, out of what handOver leaves. -/
theorem Hst.zed {kd : Nat} {ta : Option Addr} {Lt ct : Nat} (h : Hst bs ds lvb dsb bb cb logb fa fb pb k n F tv fv lv V LS stop nn w3 W) (hd : W.cell? ⟨dsb, 0, none⟩ = some (.int .i64 ds)) (htb : Bs W tv kd V)
    (hrest : Lt = 0 ∨ ∃ b o, ta = some ⟨b, o, none⟩ ∧ ∀ t, t < Lt → W.cell? ⟨b, o + t, none⟩ = some (.int .u8 (D t))) (hct : Lt ≤ ct) :
    ∃ (al : Option Addr) (gl cl : Nat) (gd cd : Nat → Nat), ∀ W' wa gw wcap, Chg [] W W' → (kd = 0 ∨ wa = some ⟨gw, 0, none⟩) → (∀ q, q < kd → W'.cell? ⟨gw, q, none⟩ = some (.int .u8 (V q))) → kd ≤ wcap →
      Zed fa dsb fb logb cb bb n F ds stop kd ((n + (nn : Nat)) % 18446744073709551616) fv al gl cl gd cd V D tv wa gw wcap ta Lt ct W' := by
  obtain ⟨al, gl, cl, hlv, hal, hcells⟩ : ∃ al gl cl, lv = .slice al stop cl ∧ (stop = 0 ∨ al = some ⟨gl, 0, none⟩) ∧ ∀ i v, (flat (encG ds) LS)[i]? = some v → W.cell? ⟨gl, i, none⟩ = some v := by
    have h0 := h.log
    rcases h.log.2 with ⟨h1, h2⟩ | ⟨g1, c1, cur, h1, _⟩
    · subst h2
      refine ⟨none, 0, 0, h1, .inl rfl, ?_⟩
      intro i v hv
      have := h.log.1
      simp at this
      rw [this] at hv
      simp at hv
    · refine ⟨some ⟨g1, 0, none⟩, g1, c1, h1, .inr rfl, ?_⟩
      intro i v hv
      subst h1
      have hi : i < (flat (encG ds) LS).length := by
        rcases Nat.lt_or_ge i (flat (encG ds) LS).length with h | h
        · exact h
        · rw [List.getElem?_eq_none h] at hv; cases hv
      have := h0.1
      rw [h0.cellAt i (by omega)]
      exact hv
  have hget : ∀ t, t < stop → ∃ x, LS[t]? = some x ∧ LS[t]?.getD ⟨0, 0, 0⟩ = x ∧ (flat (encG ds) LS)[t * 2]? = some (.int .u64 x.ix) ∧ (flat (encG ds) LS)[t * 2 + 1]? = some (.slice (some ⟨x.g, 0, none⟩) ds x.c) := fun t ht => by
    have hl := h.len
    have ht2 : t < LS.length := by omega
    refine ⟨LS[t], List.getElem?_eq_getElem ht2, by rw [List.getElem?_eq_getElem ht2]; rfl, ?_, ?_⟩
    · have := flat_get (enc := encG ds) (s := 2) (encG_len ds) LS ht2 (j := 0) (by omega)
      rw [Nat.add_zero] at this
      rw [this]
      rfl
    · have := flat_get (enc := encG ds) (s := 2) (encG_len ds) LS ht2 (j := 1) (by omega)
      rw [this]
      rfl
  refine ⟨al, gl, cl, fun t => (LS[t]?.getD ⟨0, 0, 0⟩).g, fun t => (LS[t]?.getD ⟨0, 0, 0⟩).c, ?_⟩
  intro W' wa gw wcap hch hwa hwant hwc
  refine ⟨hch.cell (h.f.cell (i := 0) (by omega)) (by simp), hch.cell hd (by simp), hch.cell (h.fv.cell (i := 0) (by omega)) (by simp), hch.cell (h.c.cell (i := 0) (by omega)) (by simp), hch.cell (by rw [← hlv]; exact h.l.cell (i := 0) (by omega)) (by simp), hal, ?_, ?_, ?_, hch.cell (h.b.cell (i := 5) (by omega)) (by simp), hch.cell (h.b.cell (i := 6) (by omega)) (by simp), htb.chg hch, hwa, hwant, hwc, ?_, hct⟩
  · intro t ht
    obtain ⟨x, hx, e, h1, h2⟩ := hget t ht
    have := (h.ent t x hx).1
    rw [this] at h1
    exact hch.cell (hcells _ _ h1) (by simp)
  · intro t ht
    obtain ⟨x, hx, e, h1, h2⟩ := hget t ht
    simp only [e]
    exact hch.cell (hcells _ _ h2) (by simp)
  · intro t ht j hj
    obtain ⟨x, hx, e, h1, h2⟩ := hget t ht
    simp only [e]
    have h3 := (h.ent t x hx).2
    refine hch.cell ?_ (by simp)
    rw [h3.cellAt j (by omega)]
    exact bl_get _ hj
  · rcases hrest with h1 | ⟨b, o, h1, h2⟩
    · exact .inl h1
    · exact .inr ⟨b, o, h1, fun t ht => hch.cell (h2 t ht) (by simp)⟩
end

section
variable {bs ds lvb dsb bb cb logb fa fb pb k r L cd ns cs g base : Nat} {n F : Int} {sa ad : Option Addr} {fv : Value} {D : Nat → Int} {w0 W : World} {e : Ending}

theorem FinPost.zed {a4 : Bool} {ta : Option Addr} {Lt ct : Nat} (h : FinPost bs ds lvb dsb bb cb logb fa fb pb k r L cd ns cs g base n F sa ad fv D w0 e W) (hd : W.cell? ⟨dsb, 0, none⟩ = some (.int .i64 ds)) (hfi : ∃ x, fv = .iface 60 (pt x)) (ha : a4 = false → ad = none)
    (hrest : Lt = 0 ∨ ∃ b o, ta = some ⟨b, o, none⟩ ∧ ∀ t, t < Lt → W.cell? ⟨b, o + t, none⟩ = some (.int .u8 (D t))) (hct : Lt ≤ ct) :
    ∃ (rv ev tv : Value) (fl : Bool) (stop : Nat) (bn : Int) (al : Option Addr) (gl cl : Nat) (gd cdd : Nat → Nat), e = .returned (.tuple #[rv, ev]) ∧
      ((fl = true ∧ ∃ f : Nat, F = f ∧ f < k ∧ stop = f + 1 ∧ bn = (n + (f : Nat)) % 18446744073709551616 ∧ ev = fv ∧ rv = .slice none 0 0) ∨ (fl = false ∧ ¬ (0 ≤ F ∧ F < k) ∧ stop = k ∧ bn = (n + (k : Nat)) % 18446744073709551616 ∧ ev = .nilIface ∧ Bs W rv r (fun t => D (k * bs + t)) ∧ (a4 = false → rv = .slice none 0 0))) ∧
      (∀ W' wa gw wcap, Chg [] W W' → (k * ds = 0 ∨ wa = some ⟨gw, 0, none⟩) → (∀ q, q < k * ds → W'.cell? ⟨gw, q, none⟩ = some (.int .u8 (dig n ds bs D q))) → k * ds ≤ wcap → Zed fa dsb fb logb cb bb n F ds stop (k * ds) bn fv al gl cl gd cdd (dig n ds bs D) D tv wa gw wcap ta Lt ct W') ∧
      Chg (bb :: cb :: logb :: (Value.slice sa ns cs).ownBlock.toList) w0 W := by
  obtain ⟨a', c', w3, rv, ev, he, hs, hown, hch, hp, hr⟩ := h
  have htb : Bs W (.slice a' (k * ds) c') (k * ds) (dig n ds bs D) := by
    refine ⟨a', c', rfl, ?_⟩
    rcases hown.2 with ⟨g1, g2⟩ | ⟨g1, c1, cur, g2, _⟩
    · exact .inl g2
    · injection g2 with g2 _ g4
      subst g2; subst g4
      exact .inr ⟨g1, 0, rfl, fun i hi => by rw [Nat.zero_add, hown.cellAt i (by omega)]; exact bl_get _ hi⟩
  obtain ⟨x, rfl⟩ := hfi
  obtain ⟨lv, LS, ⟨h1, f, hf1, hf2, hst⟩ | ⟨h1, hnf, hst⟩⟩ := hp
  · injection h1 with h1
    subst h1
    obtain ⟨al, gl, cl, gd, cdd, hz⟩ := hst.zed hd htb hrest hct
    refine ⟨rv, _, _, true, f + 1, _, al, gl, cl, gd, cdd, he, .inl ⟨rfl, f, hf1, hf2, rfl, rfl, rfl, ?_⟩, hz, hch⟩
    rcases hr with ⟨_, h2⟩ | ⟨h2, _⟩
    · exact h2
    · cases h2
  · injection h1 with h1
    subst h1
    obtain ⟨al, gl, cl, gd, cdd, hz⟩ := hst.zed hd htb hrest hct
    rcases hr with ⟨h2, _⟩ | ⟨_, h2, h3⟩
    · cases h2
    · exact ⟨rv, _, _, false, k, _, al, gl, cl, gd, cdd, he, .inr ⟨rfl, hnf, rfl, rfl, rfl, h2, fun h => h3 (ha h)⟩, hz, hch⟩
end
end Go.Proofs.Ybulkdkwu.lawS5597AWhole

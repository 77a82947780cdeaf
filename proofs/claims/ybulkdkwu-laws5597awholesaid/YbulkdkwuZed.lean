import Derived.Test.YbulkdkwuFin
namespace Go.Proofs.Ybulkdkwu.lawS5597AWhole
open Go.RowKit Go.Deep
set_option linter.unusedVariables false
set_option linter.unusedSimpArgs false

/-- What is left of a text behind its first n statements. -/
def dropSeq : Nat → Code → Code
  | 0, c => c
  | n + 1, .seq _ b => dropSeq n b
  | _ + 1, c => c

/-- All that the law's end reads. -/
structure Zed (fa dsb fb logb cb bb : Nat) (n F : Int) (ds stop kd : Nat) (bn : Int) (fv : Value) (al : Option Addr) (gl cl : Nat) (gd cd : Nat → Nat) (V D : Nat → Int) (tv : Value) (wa : Option Addr) (gw wc : Nat) (ta : Option Addr) (Lt ct : Nat) (W : World) : Prop where
  zfa : W.cell? ⟨fa, 0, none⟩ = some (.int .i64 F)
  zds : W.cell? ⟨dsb, 0, none⟩ = some (.int .i64 ds)
  zfb : W.cell? ⟨fb, 0, none⟩ = some fv
  zcb : W.cell? ⟨cb, 0, none⟩ = some (.int .i64 stop)
  zlog : W.cell? ⟨logb, 0, none⟩ = some (.slice al stop cl)
  hal : stop = 0 ∨ al = some ⟨gl, 0, none⟩
  ix : ∀ t, t < stop → W.cell? ⟨gl, t * 2, none⟩ = some (.int .u64 ((n + (t : Nat)) % 18446744073709551616))
  d : ∀ t, t < stop → W.cell? ⟨gl, t * 2 + 1, none⟩ = some (.slice (some ⟨gd t, 0, none⟩) ds (cd t))
  ent : ∀ t, t < stop → ∀ j, j < ds → W.cell? ⟨gd t, j, none⟩ = some (.int .u8 (V (t * ds + j)))
  hbn : W.cell? ⟨bb, 5, none⟩ = some (.int .u64 bn)
  htv : W.cell? ⟨bb, 6, none⟩ = some tv
  tb : Bs W tv kd V
  hwa : kd = 0 ∨ wa = some ⟨gw, 0, none⟩
  want : ∀ q, q < kd → W.cell? ⟨gw, q, none⟩ = some (.int .u8 (V q))
  hwc : kd ≤ wc
  rest : Lt = 0 ∨ ∃ b o, ta = some ⟨b, o, none⟩ ∧ ∀ t, t < Lt → W.cell? ⟨b, o + t, none⟩ = some (.int .u8 (D t))
  hct : Lt ≤ ct

theorem Bs.chg {W W1 : World} {v : Value} {n : Nat} {D : Nat → Int} (h : Bs W v n D) (hc : Chg [] W W1) : Bs W1 v n D := by
  obtain ⟨p, c, rfl, h | ⟨b, o, rfl, h⟩⟩ := h
  · exact ⟨p, c, rfl, .inl h⟩
  · exact ⟨_, c, rfl, .inr ⟨b, o, rfl, fun i hi => hc.cell (h i hi) (by simp)⟩⟩

theorem Zed.chg {fa dsb fb logb cb bb : Nat} {n F : Int} {ds stop kd : Nat} {bn : Int} {fv : Value} {al : Option Addr} {gl cl : Nat} {gd cd : Nat → Nat} {V D : Nat → Int} {tv : Value} {wa : Option Addr} {gw wc : Nat} {ta : Option Addr} {Lt ct : Nat} {W W1 : World} (z : Zed fa dsb fb logb cb bb n F ds stop kd bn fv al gl cl gd cd V D tv wa gw wc ta Lt ct W) (h : Chg [] W W1) : Zed fa dsb fb logb cb bb n F ds stop kd bn fv al gl cl gd cd V D tv wa gw wc ta Lt ct W1 :=
  ⟨h.cell z.zfa (by simp), h.cell z.zds (by simp), h.cell z.zfb (by simp), h.cell z.zcb (by simp), h.cell z.zlog (by simp), z.hal, fun t ht => h.cell (z.ix t ht) (by simp), fun t ht => h.cell (z.d t ht) (by simp), fun t ht j hj => h.cell (z.ent t ht j hj) (by simp), h.cell z.hbn (by simp), h.cell z.htv (by simp), z.tb.chg h, z.hwa, fun q hq => h.cell (z.want q hq) (by simp), z.hwc, by
    rcases z.rest with h1 | ⟨b, o, h1, h2⟩
    · exact .inl h1
    · exact .inr ⟨b, o, h1, fun t ht => h.cell (h2 t ht) (by simp)⟩, z.hct⟩


theorem info62 : (Yba.prog.info? 62).isSome = true := by kernel_rfl
theorem info60 : (Yba.prog.info? 60).map (·.comparable) = some true := by kernel_rfl
theorem iface_same (g : Nat) (W : World) : (binOp .eql 26 (.iface 60 (pt g)) (.iface 60 (pt g))).run Yba.prog W = .ok (.bool true) W := by
  obtain ⟨j, hj⟩ := Option.isSome_iff_exists.1 info62
  obtain ⟨i, hi, hc⟩ := Option.map_eq_some_iff.1 info60
  have h : ∀ d : Nat, (Op.equalIn (d + 2) 26 (.iface 60 (pt g)) (.iface 60 (pt g))).run Yba.prog W = .ok true W := fun d => by
    simp [Op.equalIn, run_underlying Yba.underlying26, run_underlying Yba.underlying60, sizeOf, typeInfo, hj, hi, hc, run_sameAddr_same]
  simp only [binOp]
  simp [Op.equal, Op.maxDepth, h 9998]
end Go.Proofs.Ybulkdkwu.lawS5597AWhole

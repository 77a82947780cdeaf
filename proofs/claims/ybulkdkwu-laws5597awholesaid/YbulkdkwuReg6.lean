import Derived.Test.YbulkdkwuHand
namespace Go.Proofs.Ybulkdkwu.lawS5597AWhole
open Go.RowKit Go.Deep
set_option linter.unusedVariables false
set_option linter.unusedSimpArgs false

/-- The region of number n in a text. -/
def regionOf (n : Nat) : Code → Option Code
  | .region k ops d => if k = n then some (.region k ops d) else none
  | .seq a b => (regionOf n a).or (regionOf n b)
  | .block _ a => regionOf n a
  | .loop a => regionOf n a
  | .cond _ a b => (regionOf n a).or (regionOf n b)
  | _ => none

set_option maxRecDepth 100000 in
set_option maxHeartbeats 4000000 in
theorem reg6_no (u1 u2 u3 u4 u7 u8 u9 u10 u11 u12 u13 u14 u15 u16 u17 u18 u19 u20 u21 u22 u23 u24 u25 u26 u27 u28 u29 u30 u31 u32 u33 u34 u35 u36 u37 u38 u39 u40 u41 u42 u43 u44 u45 u46 u47 u48 u49 u50 u51 u52 u53 u54 u55 u56 u57 u58 u59 u60 u61 u62 u63 u64 u65 u66 : Value) (bs ds lvb dsb bb cb logb fa fb pb k L cd ns cs base kb : Nat) (n : Int) (sa ad : Option Addr) (D : Nat → Int) (w : World) (K : Act → World → Prop)
    (hns1 : ns ≤ cs) (hcd : L ≤ cd) (hKL : kb ≤ L)
    (h0a : Option.map (fun x => x.add 0) sa = sa) (h0b : Option.map (fun x => x.add 0) ad = ad)
    (c0 : w.cell? ⟨bb, 0, none⟩ = some (.int .i64 bs)) (c2 : w.cell? ⟨bb, 2, none⟩ = some (.func (.func 6) #[] #[pt lvb, pt dsb])) (c5 : w.cell? ⟨bb, 5, none⟩ = some (.int .u64 n)) (c6 : w.cell? ⟨bb, 6, none⟩ = some (.slice sa ns cs))
    (hkeep : ∀ w2, Chg (Value.slice sa ns cs).ownBlock.toList w w2 → w2.rowIs bb 55 7 (bRow bs ds lvb dsb cb logb fa fb pb n (.slice sa ns cs)))
    (happ : Calls Yba.prog 13 #[.func (.func 6) #[] #[pt lvb, pt dsb], .slice sa 0 cs, .int .u64 n, .slice ad kb cd, .int .i64 bs] w.drew fun e w' =>
      ∃ (a' : Option Addr) (c' : Nat), e = .returned (.slice a' (k * ds) c') ∧ w'.ownsRow base 5 1 (.slice a' (k * ds) c') (k * ds) (bl (dig n ds bs D) (k * ds)) ∧ Chg (Value.slice sa ns cs).ownBlock.toList w w')
    (hK : ∀ (v31 v32 v33 v34 v35 v36 v37 v38 v39 v40 v41 v42 v43 v44 v45 v46 v47 v48 v49 v50 v51 v52 v53 v54 : Value) (a' : Option Addr) (c' : Nat) (w2 : World), w2.ownsRow base 5 1 (.slice a' (k * ds) c') (k * ds) (bl (dig n ds bs D) (k * ds)) → Chg (Value.slice sa ns cs).ownBlock.toList w w2 → K ⟨#[pt bb, u1, u2, u3, u4, .slice ad L cd, .int .i64 kb, u7, u8, u9, u10, u11, u12, u13, u14, u15, u16, u17, u18, u19, u20, u21, u22, u23, u24, u25, u26, u27, u28, u29, u30, v31, v32, v33, v34, v35, v36, v37, v38, v39, v40, v41, v42, v43, v44, v45, v46, v47, v48, v49, v50, v51, v52, v53, v54, u55, u56, u57, u58, u59, u60, u61, u62, u63, u64, u65, u66], []⟩ (w2.setCell ⟨bb, 6, none⟩ (.slice a' (k * ds) c'))) :
    Code.wp Yba.prog ((regionOf 6 (Yba.f9.body.getD .skip)).getD .skip) (Exit.then K fun _ _ _ => False) ⟨#[pt bb, u1, u2, u3, u4, .slice ad L cd, .int .i64 kb, u7, u8, u9, u10, u11, u12, u13, u14, u15, u16, u17, u18, u19, u20, u21, u22, u23, u24, u25, u26, u27, u28, u29, u30, u31, u32, u33, u34, u35, u36, u37, u38, u39, u40, u41, u42, u43, u44, u45, u46, u47, u48, u49, u50, u51, u52, u53, u54, u55, u56, u57, u58, u59, u60, u61, u62, u63, u64, u65, u66], []⟩ w := by
  have HK := hid_mk hkeep
  have HX := hid_mk hK
  have i1 : (0 : Int) ≤ (kb : Int) := by omega
  have i2 : (kb : Int) ≤ (cd : Int) := by omega
  have i3 : (kb : Int) ≤ (L : Int) := by omega
  have i4 : (0 : Int) ≤ (cs : Int) := by omega
  clear hK hkeep
  conv => arg 2; whnf
  dsimp only
  refine wp_region_held_drew (S := fun W => W.cell? ⟨bb, 0, none⟩ = some (.int .i64 bs) ∧ W.cell? ⟨bb, 2, none⟩ = some (.func (.func 6) #[] #[pt lvb, pt dsb]) ∧ W.cell? ⟨bb, 5, none⟩ = some (.int .u64 n)) (by kernel_rfl) ⟨c0, c2, c5⟩ (fun hHeld => ?_)
  have hHeld0 := hHeld
  refine wpAnyH_take (i := 0) (v := ?v0) rfl (by kernel_rfl) (by kernel_rfl) (by kernel_rfl) (fun _ _ _ h => h) (Or.inl ⟨by rfl, ?hy0⟩) (by assumption) ?rest0
  case hy0 => (intro w hSw; (try dsimp only at hSw); go_simp; try with_reducible rfl)
  try simp only [Act.put, List.setIfInBounds_toArray, List.set_cons_zero, List.set_cons_succ]
  refine wpAnyH_take (i := 1) (v := ?v1) rfl (by kernel_rfl) (by kernel_rfl) (by kernel_rfl) (fun _ _ _ h => h) (Or.inl ⟨by rfl, ?hy1⟩) (by assumption) ?rest1
  case hy1 => (intro w hSw; (try dsimp only at hSw); go_simp; try with_reducible rfl)
  try simp only [Act.put, List.setIfInBounds_toArray, List.set_cons_zero, List.set_cons_succ]
  refine wpAnyH_take (i := 2) (v := ?v2) rfl (by kernel_rfl) (by kernel_rfl) (by kernel_rfl) (fun _ _ _ h => h) (Or.inl ⟨by rfl, ?hy2⟩) (by assumption) ?rest2
  case hy2 => (intro w hSw; (try dsimp only at hSw); go_simp; try with_reducible rfl)
  try simp only [Act.put, List.setIfInBounds_toArray, List.set_cons_zero, List.set_cons_succ]
  refine wpAnyH_take (i := 3) (v := ?v3) rfl (by kernel_rfl) (by kernel_rfl) (by kernel_rfl) (fun _ _ _ h => h) (Or.inl ⟨by rfl, ?hy3⟩) (by assumption) ?rest3
  case hy3 => (intro w hSw; (try dsimp only at hSw); go_simp; try with_reducible rfl)
  try simp only [Act.put, List.setIfInBounds_toArray, List.set_cons_zero, List.set_cons_succ]
  refine wpAnyH_take (i := 4) (v := ?v4) rfl (by kernel_rfl) (by kernel_rfl) (by kernel_rfl) (fun _ _ _ h => h) (Or.inl ⟨by rfl, ?hy4⟩) (by assumption) ?rest4
  case hy4 => (intro w hSw; (try dsimp only at hSw); go_simp; try with_reducible rfl)
  try simp only [Act.put, List.setIfInBounds_toArray, List.set_cons_zero, List.set_cons_succ]
  refine wpAnyH_take (i := 5) (v := ?v5) rfl (by kernel_rfl) (by kernel_rfl) (by kernel_rfl) (fun _ _ _ h => h) (Or.inl ⟨by rfl, ?hy5⟩) (by assumption) ?rest5
  case hy5 => (intro w hSw; (try dsimp only at hSw); go_simp; try with_reducible rfl)
  try simp only [Act.put, List.setIfInBounds_toArray, List.set_cons_zero, List.set_cons_succ]
  refine wpAnyH_take (i := 6) (v := ?v6) rfl (by kernel_rfl) (by kernel_rfl) (by kernel_rfl) (fun _ _ _ h => h) (Or.inl ⟨by rfl, ?hy6⟩) (by assumption) ?rest6
  case hy6 => (intro w hSw; (try dsimp only at hSw); go_simp; try with_reducible rfl)
  try simp only [Act.put, List.setIfInBounds_toArray, List.set_cons_zero, List.set_cons_succ]
  refine wpAnyH_take (i := 7) (v := ?v7) rfl (by kernel_rfl) (by kernel_rfl) (by kernel_rfl) (fun _ _ _ h => h) (Or.inl ⟨by rfl, ?hy7⟩) (by assumption) ?rest7
  case hy7 => (intro w hSw; (try dsimp only at hSw); go_simp; try with_reducible rfl)
  try simp only [Act.put, List.setIfInBounds_toArray, List.set_cons_zero, List.set_cons_succ]
  refine wpAnyH_take (i := 10) (v := ?v10) rfl (by kernel_rfl) (by kernel_rfl) (by kernel_rfl) (fun _ _ _ h => h) (Or.inl ⟨by rfl, ?hy10⟩) (by assumption) ?rest10
  case hy10 => (intro w hSw; (try dsimp only at hSw); go_simp; try with_reducible rfl)
  try simp only [Act.put, List.setIfInBounds_toArray, List.set_cons_zero, List.set_cons_succ]
  refine wpAnyH_take (i := 11) (v := ?v11) rfl (by kernel_rfl) (by kernel_rfl) (by kernel_rfl) (fun _ _ _ h => h) (Or.inl ⟨by rfl, ?hy11⟩) (by assumption) ?rest11
  case hy11 => (intro w hSw; (try dsimp only at hSw); go_simp; try with_reducible rfl)
  try simp only [Act.put, List.setIfInBounds_toArray, List.set_cons_zero, List.set_cons_succ]
  refine wpAnyH_take (i := 12) (v := ?v12) rfl (by kernel_rfl) (by kernel_rfl) (by kernel_rfl) (fun _ _ _ h => h) (Or.inl ⟨by rfl, ?hy12⟩) (by assumption) ?rest12
  case hy12 => (intro w hSw; (try dsimp only at hSw); go_simp; try with_reducible rfl)
  try simp only [Act.put, List.setIfInBounds_toArray, List.set_cons_zero, List.set_cons_succ]
  refine wpAnyH_take (i := 13) (v := ?v13) rfl (by kernel_rfl) (by kernel_rfl) (by kernel_rfl) (fun _ _ _ h => h) (Or.inl ⟨by rfl, ?hy13⟩) (by assumption) ?rest13
  case hy13 => (intro w hSw; (try dsimp only at hSw); go_simp; try with_reducible rfl)
  try simp only [Act.put, List.setIfInBounds_toArray, List.set_cons_zero, List.set_cons_succ]
  refine wpAnyH_take (i := 14) (v := ?v14) rfl (by kernel_rfl) (by kernel_rfl) (by kernel_rfl) (fun _ _ _ h => h) (Or.inl ⟨by rfl, ?hy14⟩) (by assumption) ?rest14
  case hy14 => (intro w hSw; (try dsimp only at hSw); go_simp; try with_reducible rfl)
  try simp only [Act.put, List.setIfInBounds_toArray, List.set_cons_zero, List.set_cons_succ]
  refine wpAnyH_take (i := 15) (v := ?v15) rfl (by kernel_rfl) (by kernel_rfl) (by kernel_rfl) (fun _ _ _ h => h) (Or.inl ⟨by rfl, ?hy15⟩) (by assumption) ?rest15
  case hy15 => (intro w hSw; (try dsimp only at hSw); go_simp; try with_reducible rfl)
  try simp only [Act.put, List.setIfInBounds_toArray, List.set_cons_zero, List.set_cons_succ]
  refine wpAnyH_take (i := 16) (v := ?v16) rfl (by kernel_rfl) (by kernel_rfl) (by kernel_rfl) (fun _ _ _ h => h) (Or.inl ⟨by rfl, ?hy16⟩) (by assumption) ?rest16
  case hy16 => (intro w hSw; (try dsimp only at hSw); go_simp; try with_reducible rfl)
  try simp only [Act.put, List.setIfInBounds_toArray, List.set_cons_zero, List.set_cons_succ]
  refine wpAnyH_take (i := 17) (v := ?v17) rfl (by kernel_rfl) (by kernel_rfl) (by kernel_rfl) (fun _ _ _ h => h) (Or.inl ⟨by rfl, ?hy17⟩) (by assumption) ?rest17
  case hy17 => (intro w hSw; (try dsimp only at hSw); go_simp; try with_reducible rfl)
  try simp only [Act.put, List.setIfInBounds_toArray, List.set_cons_zero, List.set_cons_succ]
  refine wpAnyH_take (i := 18) (v := ?v18) rfl (by kernel_rfl) (by kernel_rfl) (by kernel_rfl) (fun _ _ _ h => h) (Or.inl ⟨by rfl, ?hy18⟩) (by assumption) ?rest18
  case hy18 => (intro w hSw; (try dsimp only at hSw); go_simp; try with_reducible rfl)
  try simp only [Act.put, List.setIfInBounds_toArray, List.set_cons_zero, List.set_cons_succ]
  refine wpAnyH_take (i := 19) (v := ?v19) rfl (by kernel_rfl) (by kernel_rfl) (by kernel_rfl) (fun _ _ _ h => h) (Or.inl ⟨by rfl, ?hy19⟩) (by assumption) ?rest19
  case hy19 => (intro w hSw; (try dsimp only at hSw); go_simp; try with_reducible rfl)
  try simp only [Act.put, List.setIfInBounds_toArray, List.set_cons_zero, List.set_cons_succ]
  refine wpAnyH_take (i := 20) (v := ?v20) rfl (by kernel_rfl) (by kernel_rfl) (by kernel_rfl) (fun _ _ _ h => h) (Or.inl ⟨by rfl, ?hy20⟩) (by assumption) ?rest20
  case hy20 => (intro w hSw; (try dsimp only at hSw); go_simp; try with_reducible rfl)
  try simp only [Act.put, List.setIfInBounds_toArray, List.set_cons_zero, List.set_cons_succ]
  refine wpAnyH_ready (rs := [8]) (by kernel_rfl) (by simp) ?_
  refine AllReadyH.cons rfl (fun K hK => ?_) AllReadyH.nil
  go_simp
  refine hK.out _ _ ?_ (fun hHeld => ?_)
  · exact hHeld0
  clear hK K
  refine wpAnyH_take (i := 9) (v := ?v9) rfl (by kernel_rfl) (by kernel_rfl) (by kernel_rfl) (fun _ _ _ h => h) (Or.inl ⟨by rfl, ?hy9⟩) (by assumption) ?rest9
  case hy9 => (intro w hSw; (try dsimp only at hSw); go_simp; try with_reducible rfl)
  try simp only [Act.put, List.setIfInBounds_toArray, List.set_cons_zero, List.set_cons_succ]
  refine wpAnyH_ready (rs := [21]) (by kernel_rfl) (by simp) ?_
  refine AllReadyH.cons rfl (fun K hK => ?_) AllReadyH.nil
  go_simp
  go_wp2_with (first | (go_at_call 13; refine happ.mono ?_; rintro e w2 ⟨a', c', rfl, ho2, hch2⟩; have k6 := (HK.out w2 hch2).cell (i := 6) (by omega); have f6 := (HK.out w2 hch2).frozen 6))
  refine hK.out _ _ ?_ (fun hHeld => ?_)
  · exact ⟨(HK.out w2 hch2).cell (i := 0) (by omega), (HK.out w2 hch2).cell (i := 2) (by omega), (HK.out w2 hch2).cell (i := 5) (by omega)⟩
  clear hK K
  refine wpAnyH_take (i := 22) (v := ?v22) rfl (by kernel_rfl) (by kernel_rfl) (by kernel_rfl) (fun _ _ _ h => h) (Or.inl ⟨by rfl, ?hy22⟩) (by assumption) ?rest22
  case hy22 => (intro w hSw; (try dsimp only at hSw); go_simp; try with_reducible rfl)
  try simp only [Act.put, List.setIfInBounds_toArray, List.set_cons_zero, List.set_cons_succ]
  refine wpAnyH_take (i := 23) (v := ?v23) rfl (by kernel_rfl) (by kernel_rfl) (by kernel_rfl) (fun _ _ _ h => h) (Or.inl ⟨by rfl, ?hy23⟩) (by assumption) ?rest23
  case hy23 => (intro w hSw; (try dsimp only at hSw); go_simp; try with_reducible rfl)
  try simp only [Act.put, List.setIfInBounds_toArray, List.set_cons_zero, List.set_cons_succ]
  refine wpAnyH_ready (rs := [24]) (by kernel_rfl) (by simp) ?_
  refine AllReadyH.cons rfl (fun K hK => ?_) AllReadyH.nil
  go_simp
  refine hK.out _ _ ?_ (fun hHeld => ?_)
  · exact ⟨((HK.out w2 hch2).set 6 _).cell (i := 0) (by omega), ((HK.out w2 hch2).set 6 _).cell (i := 2) (by omega), ((HK.out w2 hch2).set 6 _).cell (i := 5) (by omega)⟩
  clear hK K
  refine wpAnyH_done (by kernel_rfl) ?_ _
  exact HX.out _ _ _ _ _ _ _ _ _ _ _ _ _ _ _ _ _ _ _ _ _ _ _ _  a' c' w2 ho2 hch2

theorem reg6 (u1 u2 u3 u4 u7 u8 u9 u10 u11 u12 u13 u14 u15 u16 u17 u18 u19 u20 u21 u22 u23 u24 u25 u26 u27 u28 u29 u30 u31 u32 u33 u34 u35 u36 u37 u38 u39 u40 u41 u42 u43 u44 u45 u46 u47 u48 u49 u50 u51 u52 u53 u54 u55 u56 u57 u58 u59 u60 u61 u62 u63 u64 u65 u66 : Value) (bs ds lvb dsb bb cb logb fa fb pb k L cd ns cs base kb : Nat) (n : Int) (sa ad : Option Addr) (D : Nat → Int) (w : World) (Q : Exit → Act → World → Prop)
    (hns1 : ns ≤ cs) (hcd : L ≤ cd) (hKL : kb ≤ L)
    (h0a : Option.map (fun x => x.add 0) sa = sa) (h0b : Option.map (fun x => x.add 0) ad = ad)
    (c0 : w.cell? ⟨bb, 0, none⟩ = some (.int .i64 bs)) (c2 : w.cell? ⟨bb, 2, none⟩ = some (.func (.func 6) #[] #[pt lvb, pt dsb])) (c5 : w.cell? ⟨bb, 5, none⟩ = some (.int .u64 n)) (c6 : w.cell? ⟨bb, 6, none⟩ = some (.slice sa ns cs))
    (hkeep : ∀ w2, Chg (Value.slice sa ns cs).ownBlock.toList w w2 → w2.rowIs bb 55 7 (bRow bs ds lvb dsb cb logb fa fb pb n (.slice sa ns cs)))
    (happ : Calls Yba.prog 13 #[.func (.func 6) #[] #[pt lvb, pt dsb], .slice sa 0 cs, .int .u64 n, .slice ad kb cd, .int .i64 bs] w.drew fun e w' =>
      ∃ (a' : Option Addr) (c' : Nat), e = .returned (.slice a' (k * ds) c') ∧ w'.ownsRow base 5 1 (.slice a' (k * ds) c') (k * ds) (bl (dig n ds bs D) (k * ds)) ∧ Chg (Value.slice sa ns cs).ownBlock.toList w w')
    (hK : ∀ (v31 v32 v33 v34 v35 v36 v37 v38 v39 v40 v41 v42 v43 v44 v45 v46 v47 v48 v49 v50 v51 v52 v53 v54 : Value) (a' : Option Addr) (c' : Nat) (w2 : World), w2.ownsRow base 5 1 (.slice a' (k * ds) c') (k * ds) (bl (dig n ds bs D) (k * ds)) → Chg (Value.slice sa ns cs).ownBlock.toList w w2 → Q .normal ⟨#[pt bb, u1, u2, u3, u4, .slice ad L cd, .int .i64 kb, u7, u8, u9, u10, u11, u12, u13, u14, u15, u16, u17, u18, u19, u20, u21, u22, u23, u24, u25, u26, u27, u28, u29, u30, v31, v32, v33, v34, v35, v36, v37, v38, v39, v40, v41, v42, v43, v44, v45, v46, v47, v48, v49, v50, v51, v52, v53, v54, u55, u56, u57, u58, u59, u60, u61, u62, u63, u64, u65, u66], []⟩ (w2.setCell ⟨bb, 6, none⟩ (.slice a' (k * ds) c'))) :
    Code.wp Yba.prog ((regionOf 6 (Yba.f9.body.getD .skip)).getD .skip) Q ⟨#[pt bb, u1, u2, u3, u4, .slice ad L cd, .int .i64 kb, u7, u8, u9, u10, u11, u12, u13, u14, u15, u16, u17, u18, u19, u20, u21, u22, u23, u24, u25, u26, u27, u28, u29, u30, u31, u32, u33, u34, u35, u36, u37, u38, u39, u40, u41, u42, u43, u44, u45, u46, u47, u48, u49, u50, u51, u52, u53, u54, u55, u56, u57, u58, u59, u60, u61, u62, u63, u64, u65, u66], []⟩ w :=
  Code.wp_mono (fun e a w q => by cases e <;> first | exact q | exact q.elim) (reg6_no u1 u2 u3 u4 u7 u8 u9 u10 u11 u12 u13 u14 u15 u16 u17 u18 u19 u20 u21 u22 u23 u24 u25 u26 u27 u28 u29 u30 u31 u32 u33 u34 u35 u36 u37 u38 u39 u40 u41 u42 u43 u44 u45 u46 u47 u48 u49 u50 u51 u52 u53 u54 u55 u56 u57 u58 u59 u60 u61 u62 u63 u64 u65 u66 bs ds lvb dsb bb cb logb fa fb pb k L cd ns cs base kb n sa ad D w (fun a w => Q .normal a w) hns1 hcd hKL h0a h0b c0 c2 c5 c6 hkeep happ hK)
end Go.Proofs.Ybulkdkwu.lawS5597AWhole

import Derived.Test.YbulkdkveCMid
namespace Go.Proofs.Ybulkdkve.lawS5594CWhole
open Go.RowKit Go.Deep
set_option linter.unusedVariables false
set_option linter.unusedSimpArgs false

/-- The Done of a first lock. -/
theorem mid_first {B : Nat} {nm : ByteArray} {pol : Int} {hs : List Hd} {ls : List Lk} {w wx wy : World} {f q p n k : Nat} {ao al : Option Addr} {c cl : Nat} {HS : List Hd} {LS : List Lk} {HC : Nat → Int} {cl0 : Bool} {m : Nat}
    (h : MidR false B nm pol hs ls w f q p n k ao al c cl HS LS HC wx) (hch : Chg [] wx wy) (hm : m < 4) (hnb : n ≤ 100000) (hkb : k ≤ 100000) (hcl : cl0 = false → 0 < k) :
    Calls Yba.prog 12 #[pt (B + 1), pt (B + 2), pt (B + 3), .int .u8 0, .int .u8 m, .bool cl0] wy fun e w' => e = .returned (.tuple #[]) ∧
      Done B tz0 rz0 nm (.slice ao n c) (.slice al k cl) (HS ++ [⟨B + 2, m, k⟩]) (LS ++ [⟨B + 3, n, upTo pol cl0 LS⟩]) (upd HC m (HC m + 1)) m wy w' := by
  have S := h.st.more hch
  have hcb : ∀ j, -1000 ≤ HC j ∧ HC j ≤ 900000 := fun j => by have := S.cnt j; omega
  by_cases hp : pol = 6
  · subst hp
    exact tgrant_ordered S.sys S.tab h.hn h.hk (by omega) hkb hm S.size hcb hcl _ rfl
  · have e : upTo pol cl0 LS = 0 := by simp [upTo, hp]
    rw [e]
    exact tgrant_other S.sys S.tab (by simp [hp]) h.hn h.hk (by omega) (by omega) hm S.size hcb

/-- Behind the grant: what it has left, and the law's own copies. -/
structure Aft (B : Nat) (nm : ByteArray) (m : Int) (w : World) (hbk g' c' n gl' cl' k : Nat) (HS : List Hd) (LS : List Lk) (HC : Nat → Int) (v36 v37 : Value) (LB : List Lk) (HB : List Hd) (CB : Nat → Int) (gL cL : Nat) (wx : World) : Prop where
  sys : Sys B tz0 rz0 nm (.slice (some ⟨g', 0, none⟩) n c') (.slice (some ⟨gl', 0, none⟩) k cl') HS LS HC wx
  hn : HS.length = n
  hk : LS.length = k
  lb : wx.ownsRow (B + 4) 90 3 v36 LB.length (flat encL LB)
  hb : wx.ownsRow (B + 4) 88 4 v37 HB.length (flat encH HB)
  cb : wx.rowIs hbk 83 4 (fun j => .int .i64 (CB j))
  log : wx.rowIs B 38 1 (fun _ => .slice (some ⟨gL, 0, none⟩) 1 cL)
  ev : wx.ownsRow (B + 4) 47 11 (.slice (some ⟨gL, 0, none⟩) 1 cL) 1 (evCells (B + 2) nm m)
  bel : Below B w wx
  nl : v36.ownBlock ≠ some gl'
  nh : v37.ownBlock ≠ some g'
  hbk4 : B + 4 ≤ hbk
  size : B + 4 ≤ wx.heap.size

section
variable {B : Nat} {nm : ByteArray} {m : Int} {w : World} {hbk g' c' n gl' cl' k : Nat} {HS : List Hd} {LS : List Lk} {HC : Nat → Int} {v36 v37 : Value} {LB : List Lk} {HB : List Hd} {CB : Nat → Int} {gL cL : Nat} {wx wy : World}

theorem Aft.glt (a : Aft B nm m w hbk g' c' n gl' cl' k HS LS HC v36 v37 LB HB CB gL cL wx) : g' < wx.heap.size ∧ gl' < wx.heap.size ∧ B + 4 ≤ g' ∧ B + 4 ≤ gl' := by
  have h1 := a.sys.hlt (g := g') rfl
  have h2 := a.sys.llt (g := gl') rfl
  omega

/-- The Sys, the log stay where only the copies are written. -/
theorem Aft.base (a : Aft B nm m w hbk g' c' n gl' cl' k HS LS HC v36 v37 LB HB CB gL cL wx) {L : List Nat} (hch : Chg L wx wy) (hL : ∀ x ∈ L, v36.ownBlock = some x ∨ v37.ownBlock = some x ∨ x = hbk) :
    Sys B tz0 rz0 nm (.slice (some ⟨g', 0, none⟩) n c') (.slice (some ⟨gl', 0, none⟩) k cl') HS LS HC wy ∧ wy.rowIs B 38 1 (fun _ => .slice (some ⟨gL, 0, none⟩) 1 cL) ∧ wy.ownsRow (B + 4) 47 11 (.slice (some ⟨gL, 0, none⟩) 1 cL) 1 (evCells (B + 2) nm m) ∧ Below B w wy ∧ B + 4 ≤ wy.heap.size := by
  have hB : ∀ x ∈ L, B + 4 ≤ x := by
    intro x hx
    rcases hL x hx with h | h | h
    · exact (a.lb.lt x h).1
    · exact (a.hb.lt x h).1
    · rw [h]; exact a.hbk4
  have nb : ∀ x, x < B + 4 → x ∉ L := fun x hx hm => by have := hB x hm; omega
  have hcb := a.cb
  refine ⟨a.sys.chg hch (nb _ (by omega)) (nb _ (by omega)) ?_ ?_, hch.row a.log (nb _ (by omega)), hch.own a.ev ?_, hch.below a.bel (by have := a.size; omega) (fun x hx => by have := hB x hx; omega), Nat.le_trans a.size hch.size⟩
  · intro g hg hm
    simp [Value.ownBlock] at hg
    subst hg
    rcases hL _ hm with h | h | h
    · exact own_apart a.sys.ho a.lb (by decide) rfl h
    · exact a.nh h
    · subst h
      exact own_row_apart a.sys.ho hcb (by decide) rfl
  · intro g hg hm
    simp [Value.ownBlock] at hg
    subst hg
    rcases hL _ hm with h | h | h
    · exact a.nl h
    · exact own_apart a.sys.lo a.hb (by decide) rfl h
    · subst h
      exact own_row_apart a.sys.lo hcb (by decide) rfl
  · intro g hg hm
    rcases hL _ hm with h | h | h
    · exact own_apart a.ev a.lb (by decide) hg h
    · exact own_apart a.ev a.hb (by decide) hg h
    · subst h
      exact own_row_apart a.ev hcb (by decide) hg

theorem Aft.more (a : Aft B nm m w hbk g' c' n gl' cl' k HS LS HC v36 v37 LB HB CB gL cL wx) (hch : Chg [] wx wy) : Aft B nm m w hbk g' c' n gl' cl' k HS LS HC v36 v37 LB HB CB gL cL wy := by
  obtain ⟨h1, h2, h3, h4, h5⟩ := a.base hch (by simp)
  exact ⟨h1, a.hn, a.hk, hch.own a.lb (by simp), hch.own a.hb (by simp), hch.row a.cb (by simp), h2, h3, h4, a.nl, a.nh, a.hbk4, h5⟩

/-- 'heldB[j] = v'. -/
theorem Aft.setC (a : Aft B nm m w hbk g' c' n gl' cl' k HS LS HC v36 v37 LB HB CB gL cL wx) (j : Nat) (v : Int) : Aft B nm m w hbk g' c' n gl' cl' k HS LS HC v36 v37 LB HB (upd CB j v) gL cL (wx.setCell ⟨hbk, j, none⟩ (.int .i64 v)) := by
  have hch : Chg [hbk] wx (wx.setCell ⟨hbk, j, none⟩ (.int .i64 v)) := (Chg.refl _ wx).setCell _ _ (by simp)
  obtain ⟨h1, h2, h3, h4, h5⟩ := a.base hch (by simp)
  have hcb := a.cb
  refine ⟨h1, a.hn, a.hk, hch.own a.lb ?_, hch.own a.hb ?_, (hcb.set j _).congr (fun i _ => by unfold upd; split <;> rfl), h2, h3, h4, a.nl, a.nh, a.hbk4, h5⟩
  · intro g hg hm
    simp at hm
    subst hm
    exact own_row_apart a.lb hcb (by decide) hg
  · intro g hg hm
    simp at hm
    subst hm
    exact own_row_apart a.hb hcb (by decide) hg

/-- 'holdersB[p].mode = mm'. -/
theorem Aft.setM {gC nC cC p : Nat} (a : Aft B nm m w hbk g' c' n gl' cl' k HS LS HC v36 (.slice (some ⟨gC, 0, none⟩) nC cC) LB HB CB gL cL wx) (hnC : HB.length = nC) (hp : p < HB.length) (mm : Int) :
    Aft B nm m w hbk g' c' n gl' cl' k HS LS HC v36 (.slice (some ⟨gC, 0, none⟩) nC cC) LB (HB.set p ⟨HB[p].b, mm, HB[p].l⟩) CB gL cL (wx.setCell ⟨gC, p * 4 + 1, none⟩ (.int .u8 mm)) := by
  have hch : Chg [gC] wx (wx.setCell ⟨gC, p * 4 + 1, none⟩ (.int .u8 mm)) := (Chg.refl _ wx).setCell _ _ (by simp)
  obtain ⟨h1, h2, h3, h4, h5⟩ := a.base hch (by intro x hx; simp at hx; subst hx; exact .inr (.inl rfl))
  refine ⟨h1, a.hn, a.hk, hch.own a.lb ?_, ?_, hch.row a.cb ?_, h2, h3, h4, a.nl, a.nh, a.hbk4, h5⟩
  · intro g hg hm
    simp at hm
    subst hm
    exact own_apart a.lb a.hb (by decide) hg rfl
  · have hb := a.hb
    rw [hnC] at hb
    have := hb.stored (p * 4 + 1) (.int .u8 mm)
    rw [flat_set encH_len HB hp (show 1 < 4 by omega) _ ⟨HB[p].b, mm, HB[p].l⟩ rfl] at this
    rw [List.length_set, hnC]
    exact this.1
  · intro hm
    simp at hm
    exact own_row_apart a.hb a.cb (by decide) (by rw [hm]; rfl)

/-- 'holdersB = append(holdersB, ..)'. -/
theorem Aft.pushH (a : Aft B nm m w hbk g' c' n gl' cl' k HS LS HC v36 v37 LB HB CB gL cL wx) (hch : Chg v37.ownBlock.toList wx wy) {x : Hd} {gC cC : Nat} (hown : wy.ownsRow (B + 4) 88 4 (.slice (some ⟨gC, 0, none⟩) (HB.length + 1) cC) (HB.length + 1) (flat encH HB ++ encH x)) (hat : v37.ownBlock = some gC ∨ wx.heap.size ≤ gC) :
    Aft B nm m w hbk g' c' n gl' cl' k HS LS HC v36 (.slice (some ⟨gC, 0, none⟩) (HB.length + 1) cC) LB (HB ++ [x]) CB gL cL wy := by
  obtain ⟨h1, h2, h3, h4, h5⟩ := a.base hch (by intro x hx; rw [Option.mem_toList] at hx; exact .inr (.inl hx))
  have hg := a.glt
  refine ⟨h1, a.hn, a.hk, hch.own a.lb ?_, by rw [List.length_append, List.length_singleton, flat_append, flat_one]; exact hown, hch.row a.cb ?_, h2, h3, h4, a.nl, ?_, a.hbk4, h5⟩
  · intro g hg hm
    rw [Option.mem_toList] at hm
    exact own_apart a.lb a.hb (by decide) hg hm
  · intro hm
    rw [Option.mem_toList] at hm
    exact own_row_apart a.hb a.cb (by decide) hm
  · intro e
    simp [Value.ownBlock] at e
    subst e
    rcases hat with hat | hat
    · exact a.nh hat
    · omega

/-- 'locksB = append(locksB, ..)'. -/
theorem Aft.pushL (a : Aft B nm m w hbk g' c' n gl' cl' k HS LS HC v36 v37 LB HB CB gL cL wx) (hch : Chg v36.ownBlock.toList wx wy) {x : Lk} {gC cC : Nat} (hown : wy.ownsRow (B + 4) 90 3 (.slice (some ⟨gC, 0, none⟩) (LB.length + 1) cC) (LB.length + 1) (flat encL LB ++ encL x)) (hat : v36.ownBlock = some gC ∨ wx.heap.size ≤ gC) :
    Aft B nm m w hbk g' c' n gl' cl' k HS LS HC (.slice (some ⟨gC, 0, none⟩) (LB.length + 1) cC) v37 (LB ++ [x]) HB CB gL cL wy := by
  obtain ⟨h1, h2, h3, h4, h5⟩ := a.base hch (by intro x hx; rw [Option.mem_toList] at hx; exact .inl hx)
  have hg := a.glt
  refine ⟨h1, a.hn, a.hk, by rw [List.length_append, List.length_singleton, flat_append, flat_one]; exact hown, hch.own a.hb ?_, hch.row a.cb ?_, h2, h3, h4, ?_, a.nh, a.hbk4, h5⟩
  · intro g hg hm
    rw [Option.mem_toList] at hm
    exact own_apart a.hb a.lb (by decide) hg hm
  · intro hm
    rw [Option.mem_toList] at hm
    exact own_row_apart a.lb a.cb (by decide) hm
  · intro e
    simp [Value.ownBlock] at e
    subst e
    rcases hat with hat | hat
    · exact a.nl hat
    · omega
end

/-- Right behind the grant. -/
theorem aft_of_done {B : Nat} {nm : ByteArray} {m : Int} {w w3 w4 w5 w6 w7 : World} {hv lv : Value} {HS0 : List Hd} {LS0 : List Lk} {HC0 : Nat → Int} {v36 v37 : Value} {HS : List Hd} {LS : List Lk} {HC : Nat → Int} {hbk : Nat}
    (hsys : Sys B tz0 rz0 nm hv lv HS0 LS0 HC0 w3) (hbel : Below B w w3) (hsz : B + 4 ≤ w3.heap.size) (h4 : Chg [] w3 w4) (h5 : Chg [] w4 w5) (h6 : Chg [] w5 w6) (lb : w4.ownsRow w3.heap.size 90 3 v36 LS0.length (flat encL LS0)) (hb : w5.ownsRow w4.heap.size 88 4 v37 HS0.length (flat encH HS0))
    (hbk5 : hbk = w5.heap.size) (cb : w6.rowIs hbk 83 4 (fun j => .int .i64 (HC0 j))) (hd : Done B tz0 rz0 nm hv lv HS LS HC m w6 w7) :
    ∃ g' c' gl' cl' gL cL, Aft B nm m w hbk g' c' HS.length gl' cl' LS.length HS LS HC v36 v37 LS0 HS0 HC0 gL cL w7 := by
  obtain ⟨g', c', gl', cl', gL, cL, s1, s2, s3, hch, m1, m2⟩ := hd
  have z4 := h4.size
  have z5 := h5.size
  have z6 := h6.size
  have hL : ∀ x ∈ B :: (B + 2) :: (B + 3) :: (hv.ownBlock.toList ++ lv.ownBlock.toList), x < w3.heap.size := by
    intro x hx
    simp only [List.mem_cons, List.mem_append, Option.mem_toList] at hx
    rcases hx with hx | hx | hx | hx | hx
    · omega
    · omega
    · omega
    · exact (hsys.hlt hx).2
    · exact (hsys.llt hx).2
  have hLB : ∀ x ∈ B :: (B + 2) :: (B + 3) :: (hv.ownBlock.toList ++ lv.ownBlock.toList), B ≤ x := by
    intro x hx
    simp only [List.mem_cons, List.mem_append, Option.mem_toList] at hx
    rcases hx with hx | hx | hx | hx | hx
    · omega
    · omega
    · omega
    · have := (hsys.hlt hx).1; omega
    · have := (hsys.llt hx).1; omega
  have lb5 := h5.own lb (by simp)
  have lb6 := h6.own lb5 (by simp)
  have hb6 := h6.own hb (by simp)
  have lb7 := hch.own lb6 (fun g hg hm => by have := hL g hm; have := (lb.lt g hg).1; omega)
  have hb7 := hch.own hb6 (fun g hg hm => by have := hL g hm; have := (hb.lt g hg).1; omega)
  have low : ∀ {b b' e s v n xs}, b' ≤ b → w7.ownsRow b e s v n xs → w7.ownsRow b' e s v n xs := by
    intro b b' e s v n xs hle h
    refine ⟨h.1, ?_⟩
    rcases h.2 with h | ⟨g, c, cur, h1, h2, h3⟩
    · exact .inl h
    · exact .inr ⟨g, c, cur, h1, Nat.le_trans hle h2, h3⟩
  refine ⟨g', c', gl', cl', gL, cL, s1, rfl, rfl, low (by omega) lb7, low (by omega) hb7, hch.row cb (fun hm => by have := hL _ hm; omega), s2, s3, ?_, ?_, ?_, by omega, Nat.le_trans (by omega) hch.size⟩
  · have b6 : Below B w w6 := h6.below (h5.below (h4.below hbel (by omega) (by simp)) (by omega) (by simp)) (by omega) (by simp)
    exact hch.below b6 (by omega) hLB
  · intro e
    have h1 := lb.lt _ e
    rcases m2 with m2 | m2
    · have := (hsys.llt m2).2; omega
    · omega
  · intro e
    have h1 := hb.lt _ e
    rcases m1 with m1 | m1
    · have := (hsys.hlt m1).2; omega
    · omega

end Go.Proofs.Ybulkdkve.lawS5594CWhole

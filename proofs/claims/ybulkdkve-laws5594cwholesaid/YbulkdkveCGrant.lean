import Derived.Test.YbulkdkveCIndex
import Derived.Deep.RegionLaw
namespace Go.Proofs.Ybulkdkve.lawS5594CWhole
open Go.RowKit Go.Deep
set_option linter.unusedVariables false
set_option linter.unusedSimpArgs false

section
variable {B : Nat} {tz rz : Nat → Value} {nm : ByteArray} {hs : List Hd} {ls : List Lk} {hc : Nat → Int} {w : World}

set_option maxRecDepth 100000 in
set_option maxHeartbeats 2000000 in
/-- resource.grant, a promotion. -/
theorem grant_promote {g n c gl k cl p q f m : Nat} (h : Sys B tz rz nm (.slice (some ⟨g, 0, none⟩) n c) (.slice (some ⟨gl, 0, none⟩) k cl) hs ls hc w) (hn : hs.length = n) (hk : ls.length = k) (hnb : n ≤ 100001) (hkb : k ≤ 100001)
    (hp : p < n) (hq : q < k) (hqb : (ls[q]'(by omega)).b = B + 3) (hqh : (ls[q]'(by omega)).h = (p : Int)) (hql : ∀ j (hj : j < q), (ls[j]'(by omega)).b ≠ B + 3) (hpb : (hs[p]'(by omega)).b = B + 2) (hpl : ∀ j (hj : j < p), (hs[j]'(by omega)).b ≠ B + 2)
    (hlL : ∀ x ∈ ls, Lies w x.b) (hlH : ∀ x ∈ hs, Lies w x.b) (hf0 : 0 < f) (hf : f < 4) (hm : m < 4) (hx : (hs[p]'(by omega)).m = (f : Int)) (x : Hd) (hxe : hs[p]'(by omega) = x) (hb : ∀ j, -1000 ≤ hc j ∧ hc j ≤ 900000) :
    Calls Yba.prog 19 #[pt (B + 3), pt (B + 2), .int .u8 f, .int .u8 m] w fun e w' => e = .returned (.int .i64 x.l) ∧
      Sys B tz rz nm (.slice (some ⟨g, 0, none⟩) n c) (.slice (some ⟨gl, 0, none⟩) k cl) (hs.set p ⟨x.b, m, x.l⟩) ls (upd (upd hc f (hc f - 1)) m (upd hc f (hc f - 1) m + 1)) w' ∧ Chg [B + 3, g] w w' := by
  have hfz : ((f : Int) != 0) = true := by simp; omega
  go_enter Yba.func19, Yba.ntmps19
  go_wp2_with fail
  refine (holderIndex h hn hk hnb hkb hp hq hqb hqh hql hpb hpl hlL hlH).mono ?_
  rintro e w1 ⟨rfl, hch1⟩
  have h1 := h.chg hch1 (by simp) (by simp) (by simp) (by simp)
  go_wp2_with fail
  refine (setMode h1 hn (by omega) hnb hf hm hx hb).mono ?_
  rintro e w2 ⟨rfl, h2, hch2⟩
  rw [hxe] at h2
  have c3 := h2.c3
  have d3 := h2.hcell (p := p) (by rw [List.length_set]; exact hn) (by rw [List.length_set]; omega) (show 3 < 4 by omega)
  simp only [encH, List.getElem_set_self, List.getElem?_cons_zero, List.getElem?_cons_succ] at d3
  have HX : Hid (Sys B tz rz nm (.slice (some ⟨g, 0, none⟩) n c) (.slice (some ⟨gl, 0, none⟩) k cl) (hs.set p ⟨x.b, m, x.l⟩) ls (upd (upd hc f (hc f - 1)) m (upd hc f (hc f - 1) m + 1)) w2 ∧ Chg [B + 3, g] w w2) := ⟨h2, (hch1.trans hch2).mono (by simp)⟩
  clear h h1 h2 hch1 hch2 hqb hqh hql hpb hpl hlL hlH hx hb hxe
  go_wp2_with fail
  go_ret
  exact ⟨rfl, HX.out⟩
end
end Go.Proofs.Ybulkdkve.lawS5594CWhole

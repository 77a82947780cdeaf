import Derived.Test.YbulkdkxiCmp
import Derived.Laws.CopyOwn
/-! There is one sorted row; the copy of the places. -/
namespace Go.Proofs.Ybulkdkxi.lawS5598AWhole
open Go.RowKit Go.Deep
set_option linter.unusedVariables false
set_option linter.unusedSimpArgs false

theorem get_map (d : Array Int) (f : Int → Int) (i : Nat) (hi : i < d.size) : (d.map f)[i]! = f d[i]! := by
  rw [Array.getElem!_eq_getD, Array.getElem!_eq_getD, Array.getD, Array.getD, dif_pos (by simpa using hi), dif_pos hi]
  simp

theorem ext_all (d : Array Int) : d.extract 0 d.size = d := by simp

theorem uniq (K : Ks) (hK : K.Ok) (n : Nat) (d0 d1 d2 : Array Int) (h0 : d0.size = n) (hU : ∀ i, i < n → K.Pl d0[i]!) (p1 : Sort.PermIn 0 n d0 d1) (p2 : Sort.PermIn 0 n d0 d2) (s1 : Sort.SortedIn (ltc K.cf) 0 n d1) (s2 : Sort.SortedIn (ltc K.cf) 0 n d2) : d1 = d2 := by
  subst h0
  have u1 := Sort.permIn_all d0 d1 0 d0.size K.Pl (Nat.le_refl _) p1 (fun i _ hi => hU i hi)
  have u2 := Sort.permIn_all d0 d2 0 d0.size K.Pl (Nat.le_refl _) p2 (fun i _ hi => hU i hi)
  have z1 : d1.size = d0.size := p1.1
  have z2 : d2.size = d0.size := p2.1
  have swo : Sort.SWO Sort.ltInt := Sort.swo_ltInt
  have tot : ∀ x y, Sort.ltInt x y = false → Sort.ltInt y x = false → x = y := fun x y h1 h2 => by simp only [Sort.ltInt, decide_eq_false_iff_not] at h1 h2; omega
  have perm : ∀ d, d.size = d0.size → Sort.PermIn 0 d0.size d0 d → Sort.PermIn 0 (d0.map K.dec).size (d0.map K.dec) (d.map K.dec) := fun d hz hp => by
    have hp3 := hp.2.2
    refine ⟨by simp [hz], fun i hi => ?_, ?_⟩
    · have : ¬ i < d0.size := by simp at hi; omega
      rw [Array.getElem!_eq_getD, Array.getElem!_eq_getD, Array.getD, Array.getD, dif_neg (by simp; omega), dif_neg (by simp; omega)]
    · have e1 : (d.extract 0 d0.size) = d := by rw [← hz]; exact ext_all d
      rw [e1, ext_all] at hp3
      have e2 : (d0.map K.dec).extract 0 (d0.map K.dec).size = d0.map K.dec := ext_all _
      have e3 : (d.map K.dec).extract 0 (d0.map K.dec).size = d.map K.dec := by
        rw [show (d0.map K.dec).size = (d.map K.dec).size by simp [hz]]
        exact ext_all _
      rw [e2, e3]
      simp only [Array.toList_map]
      exact hp3.map _
  have srt : ∀ d, d.size = d0.size → Sort.SortedIn (ltc K.cf) 0 d0.size d → Sort.SortedIn Sort.ltInt 0 (d0.map K.dec).size (d.map K.dec) := fun d hz hs i j hi hij hj => by
    simp at hj
    rw [get_map _ _ _ (by omega), get_map _ _ _ (by omega)]
    have := hs i j hi hij (by omega)
    rw [K.lt_iff] at this
    exact this
  have e1 := Sort.sorted_unique_holds swo tot _ _ (perm d1 z1 p1) (srt d1 z1 s1)
  have e2 := Sort.sorted_unique_holds swo tot _ _ (perm d2 z2 p2) (srt d2 z2 s2)
  have e3 : (d1.map K.dec).toList = (d2.map K.dec).toList := e1.trans e2.symm
  have e4 : d1.map K.dec = d2.map K.dec := Array.toList_inj.1 e3
  apply Array.ext (by omega)
  intro i hi1 hi2
  have hd : (d1.map K.dec)[i]! = (d2.map K.dec)[i]! := by rw [e4]
  rw [get_map _ _ _ hi1, get_map _ _ _ hi2] at hd
  have hx := hK.up _ (u1 i (Nat.zero_le _) (by omega))
  have hy := hK.up _ (u2 i (Nat.zero_le _) (by omega))
  have := decF_inj K.mask K.neg hx hy hd
  rw [Array.getElem!_eq_getD, Array.getElem!_eq_getD, Array.getD, Array.getD, dif_pos hi1, dif_pos hi2] at this
  simpa using this

/-- The fresh row, filled. -/
theorem filled (W : World) (n : Nat) (d : Array Int) (hd : d.size = n) : RowA W.heap.size n n d ((W.alloc (.cells (madeCells #[.int .u32 0] n) 23)).setRow W.heap.size ((madeCells #[.int .u32 0] n).toList.take 0 ++ (bl (fun i => d[i]!) n ++ (madeCells #[.int .u32 0] n).toList.drop (0 + (bl (fun i => d[i]!) n).length))).toArray) ∧
    Chg [] W ((W.alloc (.cells (madeCells #[.int .u32 0] n) 23)).setRow W.heap.size ((madeCells #[.int .u32 0] n).toList.take 0 ++ (bl (fun i => d[i]!) n ++ (madeCells #[.int .u32 0] n).toList.drop (0 + (bl (fun i => d[i]!) n).length))).toArray) := by
  have e : ((madeCells #[.int .u32 0] n).toList.take 0 ++ (bl (fun i => d[i]!) n ++ (madeCells #[.int .u32 0] n).toList.drop (0 + (bl (fun i => d[i]!) n).length))).toArray = (bl (fun i => d[i]!) n).toArray := by
    rw [List.take_zero, List.nil_append, Nat.zero_add, bl_len, List.drop_eq_nil_of_le (by simp [size_madeCells]), List.append_nil]
  rw [e]
  refine ⟨⟨hd, Nat.le_refl _, fun i => uV d[i]!, ⟨(bl (fun i => d[i]!) n).toArray, setRow_heap _ _ (madeCells #[.int .u32 0] n) _ 23 (0, 0) (heap_alloc_new W _), by simp [bl_len], fun i hi => by simpa using bl_get (fun i => d[i]!) hi⟩, fun i hi => rfl⟩, ⟨rfl, rfl, rfl, by simp, fun k hk _ => ?_⟩⟩
  rw [setRow_other _ _ _ _ (by omega)]
  exact blk_alloc_lt _ _ _ hk

end Go.Proofs.Ybulkdkxi.lawS5598AWhole

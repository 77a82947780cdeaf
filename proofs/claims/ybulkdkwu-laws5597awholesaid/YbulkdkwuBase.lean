import Derived.Test.YbulkdkwuRows
import Derived.Test.YbulkdkwuMem
import Derived.WalkLawsBesides
import Derived.WalkSpells
import Derived.ProofKit
import Derived.Laws.BytesArg
import Derived.Deep.LoopGhost
import Derived.Deep.DeepMust
import Derived.Deep.DeepCutAuto
import Derived.Deep.CutBlock
import Derived.Deep.QuietTactic
import Derived.Deep.RegionWith
import Derived.Deep.RegionLaw
import Derived.Deep.RegionHeld
import Derived.BigQuiet
import Derived.BigRegion
import Derived.LaidEqlPtr
namespace Go.Proofs.Ybulkdkwu.lawS5597AWhole
open Go.RowKit Go.Deep
set_option linter.unusedVariables false
set_option linter.unusedSimpArgs false

theorem hid_mk {p : Prop} (h : p) : Hid p := h

/-- The bytes of a block, summed. -/
def sumB (l : Nat → Int) : Nat → Int
  | 0 => 0
  | t + 1 => (sumB l t + l t) % 256
theorem sumB_range (l : Nat → Int) : ∀ t, 0 ≤ sumB l t ∧ sumB l t ≤ 255
  | 0 => by simp [sumB]
  | t + 1 => by simp only [sumB]; omega

/-- What zzs5597adigest answers. -/
def dg (ix : Int) (j m : Nat) (l : Nat → Int) : Int := ((ix + ix / 256 % 256 * 7 + j * 31 + sumB l m) % 256 + m) % 256
theorem dg_range (ix : Int) (j m : Nat) (l : Nat → Int) : 0 ≤ dg ix j m l ∧ dg ix j m l ≤ 255 := by unfold dg; omega

set_option maxRecDepth 100000 in
set_option maxHeartbeats 2000000 in
theorem digest_walk (ix : Int) (j : Nat) (b off m c : Nat) (l : Nat → Int) (w : World) (hix : 0 ≤ ix ∧ ix ≤ 18446744073709551615) (hj : j ≤ 8) (hm : m ≤ 16) (hl : ∀ t, t < m → w.cell? ⟨b, off + t, none⟩ = some (.int .u8 (l t)) ∧ 0 ≤ l t ∧ l t ≤ 255) :
    Calls Yba.prog 7 #[.int .u64 ix, .int .i64 j, .slice (some ⟨b, off, none⟩) m c] w fun e w' => e = .returned (.int .u8 (dg ix j m l)) ∧ w' = w := by
  obtain ⟨hi1, hi2⟩ := hix
  have HL := hid_mk hl
  clear hl
  go_enter Yba.func7, Yba.ntmps7
  go_wp2_with fail
  go_loopg [7, 12] m (fun gk s7 s12 wr => ∃ t : Nat, t + gk = m ∧ s12 = .int .i64 t ∧ s7 = .int .u8 (sumB l t) ∧ wr = w)
  case atStart => exact ⟨0, by omega, rfl, rfl, rfl⟩
  case round =>
    obtain ⟨t, hgk, rfl, rfl, rfl⟩ := hrel
    obtain ⟨hs1, hs2⟩ := sumB_range l t
    by_cases htm : t < m
    · obtain ⟨h1, h2, h3⟩ := HL.out t htm
      have hti : (t : Int) < (m : Int) := by omega
      go_wp2_with fail
      go_roundg (gk - 1)
      case rel => exact ⟨t + 1, by omega, by go_num, rfl, rfl⟩
      case measure => omega
    · obtain rfl : t = m := by omega
      have HD : Hid (dg ix j t l = ((ix + ix / 256 % 256 * 7 + j * 31 + sumB l t) % 256 + t) % 256) := rfl
      clear hgk
      generalize sumB l t = s at *
      go_wp2_with fail
      go_ret
      exact ⟨by rw [HD.out]; rfl, rfl⟩

/-- A row of bytes. -/
def bl (V : Nat → Int) (n : Nat) : List Value := (List.range n).map fun i => .int .u8 (V i)
theorem bl_succ (V : Nat → Int) (n : Nat) : bl V (n + 1) = bl V n ++ [.int .u8 (V n)] := by simp [bl, List.range_succ]
theorem bl_len (V : Nat → Int) (n : Nat) : (bl V n).length = n := by simp [bl]
theorem bl_get (V : Nat → Int) {n i : Nat} (h : i < n) : (bl V n)[i]? = some (.int .u8 (V i)) := by simp [bl, h]
theorem bl_one (V : Nat → Int) (n : Nat) : ∀ u ∈ bl V n, u.oneCell' = true := by
  intro u hu
  simp only [bl, List.mem_map] at hu
  obtain ⟨i, _, rfl⟩ := hu
  rfl
theorem bl_cell {w : World} {V : Nat → Int} {n : Nat} {ad : Addr} (h : ∀ i, i < n → w.cell? (ad.add i) = some (.int .u8 (V i))) : ∀ j u, (bl V n)[j]? = some u → w.cell? (ad.add j) = some u := by
  intro j u hu
  have hj : j < n := by
    rcases Nat.lt_or_ge j n with h | h
    · exact h
    · rw [List.getElem?_eq_none (by rw [bl_len]; exact h)] at hu; cases hu
  rw [bl_get V hj] at hu
  rw [h j hj, hu]

theorem info5 : (Yba.prog.info? 5).map (fun i => (i.zero, i.size, i.bytes)) = some (some (.int .u8 0), 1, 1) := by kernel_rfl

set_option maxRecDepth 100000 in
set_option maxHeartbeats 1000000 in
theorem clone_nil (w : World) : Calls Yba.prog 4 #[.slice none 0 0] w fun e w' => e = .returned (.slice none 0 0) ∧ w' = w := by
  have hnl := fun (w : World) (a : Option Addr) (n c : Nat) => Lib.run_eql_slice_nil (P := Yba.prog) w 23 5 a n c 0 0 Yba.underlying23
  go_enter Yba.func4, Yba.ntmps4
  go_wp2_with fail
  go_ret
  exact ⟨rfl, rfl⟩

set_option maxRecDepth 100000 in
set_option maxHeartbeats 1000000 in
theorem clone_zero (x : Addr) (c : Nat) (w : World) : Calls Yba.prog 4 #[.slice (some x) 0 c] w fun e w' => e = .returned (.slice (some ⟨w.heap.size, 0, none⟩) 0 0) ∧ w' = w.alloc (.cells #[] 5) := by
  have hnl := fun (w : World) (a : Option Addr) (n c : Nat) => Lib.run_eql_slice_nil (P := Yba.prog) w 23 5 a n c 0 0 Yba.underlying23
  go_enter Yba.func4, Yba.ntmps4
  go_wp2_with fail
  go_ret
  exact ⟨rfl, rfl⟩

set_option maxRecDepth 100000 in
set_option maxHeartbeats 1000000 in
theorem clone_some (x : Addr) (n c : Nat) (D : Nat → Int) (w : World) (hn : 0 < n) (hb : n ≤ 100000) (hx : ∀ i, i < n → w.cell? (x.add i) = some (.int .u8 (D i))) :
    Calls Yba.prog 4 #[.slice (some x) n c] w fun e w' => ∃ g' c', e = .returned (.slice (some ⟨g', 0, none⟩) n c') ∧ w'.ownsRow w.heap.size 5 1 (.slice (some ⟨g', 0, none⟩) n c') n (bl D n) ∧ Chg [] w w' := by
  have hnl := fun (w : World) (a : Option Addr) (n c : Nat) => Lib.run_eql_slice_nil (P := Yba.prog) w 23 5 a n c 0 0 Yba.underlying23
  obtain ⟨i0, hi, hz0, hz1, hz2⟩ := info_parts info5
  have hown : Hid ((w.alloc (.cells #[] 5)).ownsRow w.heap.size 5 1 (.slice (some ⟨w.heap.size, 0, none⟩) 0 0) 0 []) :=
    ⟨rfl, .inr ⟨w.heap.size, 0, #[], rfl, Nat.le_refl _, heap_alloc_new w _, Nat.le_refl _, Nat.zero_le _, rfl, rfl⟩⟩
  have hnew : Hid (∀ j u, (bl D n)[j]? = some u → (w.alloc (.cells #[] 5)).cell? (x.add j) = some u) := bl_cell fun i hi => ((Chg.refl [] w).alloc _).cell (hx i hi) (by simp)
  clear hx
  go_enter Yba.func4, Yba.ntmps4
  go_wp2_with (at_builtin; go_must (refine wpList_append_lies _ rfl (.tmp 5) (.tmp 6) 23 rfl w.heap.size 5 i0 _ 1 1 Yba.underlying23 hi hz0 hz1 hz2 rfl (by decide) _ 0 [] rfl hown.out x n c (bl D n) rfl (by rw [bl_len]; omega) hnew.out (bl_one D n) hn (by unfold maxLen; omega) (by omega) (by simp) _ rfl ?_))
  intro g' c' w1 hown1 hgrow1 hat1 hlt1
  have hch : Chg [] w w1 := (((Chg.refl [] w).alloc (.cells #[] 5)).grown hgrow1 (by intro b hb hlt; simp [Value.ownBlock] at hb; omega))
  clear hgrow1 hat1 hlt1 hown hnew
  go_wp2_with fail
  go_ret
  exact ⟨g', c', by simp, by simpa using hown1, hch⟩

/-- zzs5597aclone, whole. -/
theorem clone_ok (a : Option Addr) (n c : Nat) (D : Nat → Int) (w : World) (hb : n ≤ 100000) (ha : (a = none ∧ n = 0 ∧ c = 0) ∨ ∃ x, a = some x ∧ ∀ i, i < n → w.cell? (x.add i) = some (.int .u8 (D i))) :
    Calls Yba.prog 4 #[.slice a n c] w fun e w' => ∃ (a' : Option Addr) (c' : Nat), e = .returned (.slice a' n c') ∧ a'.isNone = a.isNone ∧ w'.ownsRow w.heap.size 5 1 (.slice a' n c') n (bl D n) ∧ Chg [] w w' := by
  rcases ha with ⟨rfl, rfl, rfl⟩ | ⟨x, rfl, hx⟩
  · refine (clone_nil w).mono ?_
    rintro e w' ⟨rfl, rfl⟩
    exact ⟨none, 0, rfl, rfl, World.ownsRow_nil _ _ _ _, Chg.refl [] w'⟩
  · by_cases hn : n = 0
    · subst hn
      refine (clone_zero x c w).mono ?_
      rintro e w' ⟨rfl, rfl⟩
      exact ⟨_, 0, rfl, rfl, ⟨rfl, .inr ⟨w.heap.size, 0, #[], rfl, Nat.le_refl _, heap_alloc_new w _, Nat.le_refl _, Nat.zero_le _, rfl, rfl⟩⟩, (Chg.refl [] w).alloc _⟩
    · refine (clone_some x n c D w (by omega) hb hx).mono ?_
      rintro e w' ⟨g', c', rfl, hown, hch⟩
      exact ⟨_, c', rfl, rfl, hown, hch⟩

/-- errors.New. -/
theorem new_ok (s : ByteArray) (w : World) : Calls Yba.prog 5 #[.string s] w fun e w' => e = .returned (.iface 60 (pt w.heap.size)) ∧ w' = w.alloc (.cells #[.string s] 62) := by
  go_enter Yba.func5, Yba.ntmps5
  go_wp2_with fail
  go_ret
  exact ⟨rfl, rfl⟩

/-- What 'string(b)' gives. -/
def Str (w : World) (v : Value) (s : ByteArray) : Prop := ∀ w', Chg [] w w' → (convert 23 9 v).run Yba.prog w' = .ok (.string s) w'

set_option maxRecDepth 100000 in
set_option maxHeartbeats 1000000 in
theorem equal_ok (v1 v2 : Value) (s : ByteArray) (w : World) (h1 : (convert 23 9 v1).run Yba.prog w = .ok (.string s) w) (h2 : (convert 23 9 v2).run Yba.prog w = .ok (.string s) w) :
    Calls Yba.prog 10 #[v1, v2] w fun e w' => e = .returned (.bool true) ∧ w' = w := by
  go_enter Yba.func10, Yba.ntmps10
  go_wp2_with fail
  go_ret
  exact ⟨by simp, rfl⟩
end Go.Proofs.Ybulkdkwu.lawS5597AWhole

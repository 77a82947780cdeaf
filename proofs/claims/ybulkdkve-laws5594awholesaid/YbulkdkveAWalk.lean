import Derived.Test.YbulkdkveAFin
import Derived.Deep.DeepCutAuto
import Derived.Deep.QuietTactic
import Derived.BigQuiet
import Derived.WalkSpells
namespace Go.Proofs.Ybulkdkve.lawS5594AWhole
open Go.RowKit Go.Deep
set_option linter.unusedVariables false
set_option linter.unusedSimpArgs false

theorem start {n : Nat} (w : World) : St w.heap.size n 0 w ((w.alloc (Obj.cells (madeCells #[Value.pointer none] n) 24)).alloc (Obj.cells #[Value.pointer none, Value.pointer none, Value.pointer none] 26)) := by
  refine ⟨((World.rowIs_made w (.pointer none) n 24).alloc _).congr fun i hi => by simp, ?_, fun j hj => by omega, by simp, ((Below.refl _ _).alloc (Nat.le_refl _) _).alloc (by simp) _⟩
  have h := World.rowIs_alloc (w.alloc (Obj.cells (madeCells #[Value.pointer none] n) 24)) #[Value.pointer none, Value.pointer none, Value.pointer none] 26 (lrow w.heap.size 0) (fun i hi => by
    match i, hi with
    | 0, _ | 1, _ | 2, _ => rfl)
  simpa using h

/-- How many of the first i places are kept. -/
def cnt (pos i : Nat) : Nat := if i ≤ pos then i else i - 1
/-- What 'exp' holds behind m appends. -/
def kept (B pos m : Nat) : List Value := (List.range m).map fun t => pt (B + 2 + sk pos t)

theorem cnt_skip (pos : Nat) : cnt pos (pos + 1) = cnt pos pos := by simp [cnt]
theorem cnt_hit {pos j : Nat} (h : j ≠ pos) : cnt pos (j + 1) = cnt pos j + 1 := by unfold cnt; split <;> split <;> omega
theorem cnt_le (pos j : Nat) : cnt pos j ≤ j := by unfold cnt; split <;> omega
theorem cnt_end {pos n : Nat} (h : pos < n) : cnt pos n = n - 1 := by unfold cnt; rw [if_neg (by omega)]
theorem sk_cnt {pos j : Nat} (h : j ≠ pos) : sk pos (cnt pos j) = j := by
  unfold cnt sk
  by_cases h1 : j ≤ pos
  · rw [if_pos h1, if_pos (by omega)]
  · rw [if_neg h1, if_neg (by omega)]; omega
theorem kept_hit (B : Nat) {pos j : Nat} (h : j ≠ pos) : kept B pos (cnt pos j) ++ [pt (B + 2 + j)] = kept B pos (cnt pos j + 1) := by
  simp only [kept, List.range_succ, List.map_append, List.map_cons, List.map_nil, sk_cnt h]
theorem kept_at (B pos : Nat) {m t : Nat} (h : t < m) : (kept B pos m)[t]? = some (pt (B + 2 + sk pos t)) := by
  simp [kept, h]

set_option maxRecDepth 100000 in
set_option maxHeartbeats 4000000 in
theorem walk_pos (n : Nat) (a1 : Int) (a2 : Int) (h0n : 0 < n) (hn : n ≤ 4096) (w1 : 0 ≤ a1 ∧ a1 ≤ 65535) (w2 : 0 ≤ a2 ∧ a2 ≤ 65535) (w : World) :
    Calls Yba.prog 3 #[.int .u16 n, .int .u16 a1, .int .u16 a2] w fun e w' => e = .returned (.bool true) ∧ Below w.heap.size w w' := by
  have hmk := run_make_row' (P := Yba.prog) 23 24 (.pointer none) 8 Yba.underlying23 info24 rfl .i64 .i64 n (by omega) (by omega)
  obtain ⟨i0, hi, hz0, hz1, hz2⟩ := info_parts info24
  obtain ⟨p1, p2⟩ := w1
  obtain ⟨p3, p4⟩ := w2
  have hn0 : ((n : Int) == 0) = false := by simp; omega
  have hn1 : decide ((0 : Int) < n) = true := by simp; omega
  have hn2 : decide ((4096 : Int) < n) = false := by simp; omega
  go_enter Yba.func3, Yba.ntmps3
  go_wp2_with fail
  clear hmk
  go_loopg [10] n (fun gk i wr => ∃ k : Nat, k + gk = n ∧ i = .int .i64 k ∧ St w.heap.size n k w wr)
  case atStart => exact ⟨0, by omega, rfl, start w⟩
  case round =>
    obtain ⟨k, hk, rfl, hS⟩ := hrel
    generalize hB : w.heap.size = B at *
    by_cases hlt : k < n
    · have hsz := hS.size
      have hfB : ∀ o, (wr.alloc o).frozen? ⟨B, k, none⟩ = false := fun o => (hS.reqs.alloc o).frozen k
      have hcB : ∀ o, (wr.alloc o).cell? ⟨B, k, none⟩ = some (.pointer none) := fun o => by simpa using (hS.reqs.alloc o).cell hlt
      have HB : Hid (w.heap.size = B ∧ wr.heap.size = B + 2 + k) := ⟨hB, hsz⟩
      clear hB hsz
      go_wp2_with fail
      refine (add_step hS hlt).mono ?_
      rintro e w' ⟨rfl, hS'⟩
      go_wp2_with fail
      go_roundg (gk - 1)
      case rel => exact ⟨k + 1, by omega, by go_num, hS'⟩
      case measure => omega
    · obtain rfl : k = n := by omega
      have HB : Hid (w.heap.size = B) := hB
      clear hB hk
      obtain ⟨pos, hpos⟩ : ∃ pos : Nat, a1 % (k : Int) = pos := ⟨(a1 % (k : Int)).toNat, by have := Int.emod_nonneg a1 (show (k : Int) ≠ 0 by omega); omega⟩
      have hpos' : pos < k := by have := Int.emod_lt_of_pos a1 (show (0 : Int) < k by omega); omega
      obtain ⟨ui, hui⟩ : ∃ ui : Nat, a2 % ((k : Int) + 1) = ui := ⟨(a2 % ((k : Int) + 1)).toNat, by have := Int.emod_nonneg a2 (show (k : Int) + 1 ≠ 0 by omega); omega⟩
      have hui' : ui ≤ k := by have := Int.emod_lt_of_pos a2 (show (0 : Int) < k + 1 by omega); omega
      have hqc : wr.cell? ⟨B, pos, none⟩ = some (pt (B + 2 + pos)) := by have := hS.reqs.cell hpos'; simpa [hpos'] using this
      go_upto_if 63 with fail
      go_cut [12, 13] (fun s12 s13 wc => s12 = .int .i64 pos ∧ s13 = .int .i64 ui ∧ Mid B k (if ui < k then some ⟨B + 2 + ui, 0, none⟩ else none) w wc)
      case first =>
        have c2 := hS.l.cell (i := 2) (by omega)
        have f2 := hS.l.frozen 2
        by_cases hlu : ui < k
        · have huc : wr.cell? ⟨B, ui, none⟩ = some (pt (B + 2 + ui)) := by have := hS.reqs.cell hlu; simpa [hlu] using this
          go_wp2_with fail
          go_meet
          case rel => exact ⟨by first | rfl | rw [hpos], by first | rfl | rw [hui], by rw [if_pos hlu]; exact hS.mid _⟩
        · go_wp2_with fail
          go_meet
          case rel => exact ⟨by first | rfl | rw [hpos], by first | rfl | rw [hui], by rw [if_neg hlu]; exact hS.mid _⟩
      case rest =>
        obtain ⟨rfl, rfl, hM⟩ := hcut
        clear hpos hui hqc hS
        generalize hus : (if ui < k then some (⟨B + 2 + ui, 0, none⟩ : Addr) else none) = us at hM
        have HU : Hid ((if ui < k then some (⟨B + 2 + ui, 0, none⟩ : Addr) else none) = us) := hus
        clear hus
        have c2 := hM.l.cell (i := 2) (by omega)
        simp only [if_true] at c2
        go_upto_if 78 with fail
        go_cut [14] (fun s14 wx => s14 = .pointer (want B k pos us) ∧ wc = wx)
        case first =>
          by_cases hup : ui = pos
          · subst hup
            have hpe : ((ui : Int) == (ui : Int)) = true := by simp
            by_cases hp1 : ui + 1 < k
            · have hc := hM.reqs.cell hp1
              go_wp2_with fail
              go_meet
              case rel => exact ⟨by rw [← HU.out]; simp [want, behind, hpos', hp1], rfl⟩
            · go_wp2_with fail
              go_meet
              case rel => exact ⟨by rw [← HU.out]; simp [want, behind, hpos', hp1], rfl⟩
          · have hpe : ((ui : Int) == (pos : Int)) = false := by simp; omega
            go_wp2_with fail
            go_meet
            case rel =>
              refine ⟨?_, rfl⟩
              have : us ≠ some ⟨B + 2 + pos, 0, none⟩ := by rw [← HU.out]; split <;> simp <;> omega
              simp [want, this]
        case rest =>
          obtain ⟨rfl, rfl⟩ := hcut
          have hlE := hM.size
          obtain ⟨E, hE⟩ : ∃ E, wc.heap.size = E := ⟨_, rfl⟩
          go_wp2_with (at_make; refine wpList_make_own _ rfl _ _ 23 rfl E 24 i0 (.pointer none) 1 Yba.underlying23 hi hz0 hz1 _ _ _ k rfl rfl rfl ?b1 ?b2 ?b3 ?_)
          case b1 => rw [hz2]; omega
          case b2 => unfold maxLen; omega
          case b3 => omega
          intro w1 hown hgrow
          have hb1 : Below E wc w1 := (Below.refl _ _).grown hgrow (by omega) (by intro k h; cases h)
          rw [hE] at hlE
          clear hE hgrow c2
          go_wp2_with fail
          go_loopg [15, 16] k (fun g2 v i wq => ∃ j : Nat, j + g2 = k ∧ i = .int .i64 j ∧ v = .slice (some ⟨E, 0, none⟩) (cnt pos j) k ∧ wq.ownsRow E 24 1 (.slice (some ⟨E, 0, none⟩) (cnt pos j) k) (cnt pos j) (kept B pos (cnt pos j)) ∧ Below E wc wq)
          case atStart => exact ⟨0, by omega, rfl, rfl, hown, hb1⟩
          case round =>
            obtain ⟨j, hj, rfl, rfl, hown2, hb2⟩ := hrel
            clear hown hb1 w1
            by_cases hjk : j < k
            · by_cases hjp : j = pos
              · have hjb : ((j : Int) != (pos : Int)) = false := by simp [hjp]
                have HJ : Hid (j = pos) := hjp
                clear hjp
                go_wp2_with fail
                go_roundg (gk - 1)
                case rel =>
                  have e1 : cnt pos (j + 1) = cnt pos j := by rw [HJ.out]; exact cnt_skip pos
                  exact ⟨j + 1, by omega, by go_num, by rw [e1], by rw [e1]; exact hown2, hb2⟩
                case measure => omega
              · have hjb : ((j : Int) != (pos : Int)) = true := by simp; omega
                have hc := (hM.reqs.of_block (hb2.block _ (by omega))).cell hjk
                have hcn : cnt pos j < k := by have := cnt_le pos j; omega
                have hw : E ≤ wr.heap.size := Nat.le_of_lt (hown2.lt E rfl).2
                go_wp2_with (at_builtin; refine wpList_append_fits _ rfl _ _ 23 rfl E 24 i0 1 Yba.underlying23 hi hz1 E (cnt pos j) k _ rfl (hown2.alloc _) ⟨wr.heap.size, 0, none⟩ 1 1 [pt (B + 2 + j)] rfl rfl ?c1 ?c2 ?c3 ?_)
                case c1 => exact cell_one_new _ _ _
                case c2 => intro u hu; simp at hu; subst hu; rfl
                case c3 => omega
                intro w1 hown3 hg3
                have hb3 : Below E wc w1 := (hb2.alloc hw _).grown hg3 (by simp; omega) (by intro k h; injection h with h; omega)
                clear hg3
                go_wp2_with fail
                go_roundg (gk - 1)
                case rel =>
                  have e1 := cnt_hit hjp
                  exact ⟨j + 1, by omega, by go_num, by rw [e1], by rw [e1, ← kept_hit B hjp]; exact hown3, hb3⟩
                case measure => omega
            · obtain rfl : j = k := by omega
              have hM2 := hM.later (hb2.mono hlE)
              have hL : Lies wr us := by
                rw [← HU.out]
                split
                · exact hM2.lies ‹_›
                · exact Lies.nil _
              rw [cnt_end hpos'] at hown2 ⊢
              go_wp2_with fail
              refine (rem_call hM2 hpos' hL hlE hown2).mono ?_
              rintro e wf ⟨rfl, hF, hown4⟩
              clear hM2 hM hb2 hown2 hL hj
              have c18 := hF.gone.cell (i := 18) (by omega)
              have c19 := hF.gone.cell (i := 19) (by omega)
              simp only [rq, if_true, if_false, Nat.reduceEqDiff] at c18 c19
              have l0 := hF.l.cell (i := 0) (by omega)
              have l1 := hF.l.cell (i := 1) (by omega)
              have l2 := hF.l.cell (i := 2) (by omega)
              simp only [lfin, if_true, if_false, Nat.reduceEqDiff] at l0 l1 l2
              have hnth : ∀ t, Lies wf (nth B j pos t) := by
                intro t
                unfold nth
                split
                · exact hF.lies hpos' (by unfold sk; split <;> omega)
                · exact Lies.nil _
              have hL2 : Lies wf us := by
                rw [← HU.out]
                split
                · exact hF.lies hpos' (by omega)
                · exact Lies.nil _
              have hwant : Lies wf (want B j pos us) := by
                unfold want
                split
                · unfold behind
                  split
                  · exact hF.lies hpos' (by omega)
                  · exact Lies.nil _
                · exact hL2
              have hprv : ∀ t, t < j → Lies wf (prv B j pos t) := by
                intro t ht
                unfold prv
                split
                · exact Lies.nil _
                · exact hF.lies hpos' (by unfold sk; split <;> omega)
              have n1 := neq_self hwant
              have n2 : ∀ t, t < j → (binOp .neq 24 (.pointer (prv B j pos t)) (.pointer (prv B j pos t))).run Yba.prog wf = .ok (.bool false) wf := fun t ht => neq_self (hprv t ht)
              have n3 : ∀ t, t + 1 < j → (binOp .neq 24 (pt (B + 2 + sk pos t)) (pt (B + 2 + sk pos t))).run Yba.prog wf = .ok (.bool false) wf := fun t ht => neq_self (hF.lies hpos' (by unfold sk; split <;> omega))
              clear hnth hwant hprv
              have c17 : ∀ i, i < j → wf.cell? ⟨B + 2 + i, 17, none⟩ = some (.int .u64 i) := fun i hi => hF.order hpos' hi
              have cB : ∀ i, i < j → wf.cell? ⟨B, i, none⟩ = some (pt (B + 2 + i)) := fun i hi => hF.reqs.cell hi
              have cE : ∀ t, t + 1 < j → wf.cell? ⟨E, t, none⟩ = some (pt (B + 2 + sk pos t)) := fun t ht => (hown4.cellAt t (by omega)).trans (kept_at B pos (by omega))
              have d18 : ∀ t, t + 1 < j → wf.cell? ⟨B + 2 + sk pos t, 18, none⟩ = some (.pointer (prv B j pos t)) := fun t ht => (hF.req t ht).cell (i := 18) (by omega)
              have d19 : ∀ t, t + 1 < j → wf.cell? ⟨B + 2 + sk pos t, 19, none⟩ = some (.pointer (nth B j pos (t + 1))) := fun t ht => (hF.req t ht).cell (i := 19) (by omega)
              have hbel := hF.bel
              clear hF hown4
              go_wp2_with fail
              clear c18 c19 l2 n1
              go_loopg [17, 18, 19] (j - 1) (fun g3 pv pp i wq => ∃ t : Nat, t + g3 = j - 1 ∧ i = .int .i64 t ∧ pp = .pointer (nth B j pos t) ∧ pv = .pointer (prv B j pos t) ∧ wf = wq)
              case atStart => exact ⟨0, by omega, rfl, rfl, rfl, rfl⟩
              case round =>
                obtain ⟨t, ht, rfl, rfl, rfl, rfl⟩ := hrel
                by_cases htj : t + 1 < j
                · have e1 : nth B j pos t = some ⟨B + 2 + sk pos t, 0, none⟩ := by unfold nth; rw [if_pos htj]
                  rw [e1]
                  clear e1
                  have x1 := n2 t (by omega)
                  have x2 := n3 t htj
                  have x3 := cE t htj
                  have x4 := d18 t htj
                  have x5 := d19 t htj
                  have hti : (t : Int) < ((j - 1 : Nat) : Int) := by omega
                  go_wp2_with fail
                  go_roundg (gk - 1)
                  case rel => exact ⟨t + 1, by omega, by go_num, rfl, by simp [prv], rfl⟩
                  case measure => omega
                · obtain rfl : t = j - 1 := by omega
                  have e1 : nth B j pos (j - 1) = none := by unfold nth; rw [if_neg htj]
                  rw [e1]
                  clear e1
                  have x1 := n2 (j - 1) (by omega)
                  clear n2 n3 cE d18 d19 ht
                  go_wp2_with fail
                  clear l0 l1 x1
                  go_loopg [20] j (fun g4 i wq => ∃ t : Nat, t + g4 = j ∧ i = .int .i64 t ∧ wf = wq)
                  case atStart => exact ⟨0, by omega, rfl, rfl⟩
                  case round =>
                    obtain ⟨t, ht, rfl, rfl⟩ := hrel
                    by_cases hlt4 : t < j
                    · have x1 := c17 t hlt4
                      have x2 := cB t hlt4
                      go_wp2_with fail
                      go_roundg (gk - 1)
                      case rel => exact ⟨t + 1, by omega, by go_num, rfl⟩
                      case measure => omega
                    · go_wp2_with fail
                      go_ret
                      exact ⟨rfl, by rw [HB.out]; exact hbel⟩
end Go.Proofs.Ybulkdkve.lawS5594AWhole

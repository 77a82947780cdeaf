import Derived.Test.YbulkdkwuSegE
namespace Go.Proofs.Ybulkdkwu.lawS5597AWhole
open Go.RowKit Go.Deep
set_option linter.unusedVariables false
set_option linter.unusedSimpArgs false

set_option maxRecDepth 100000 in
set_option maxHeartbeats 4000000 in
theorem entry (a0 a1 n F : Int) (a4 a5 : Bool) (a3 a7 : Option Addr) (L c3 ns c7 : Nat) (D D2 : Nat → Int) (w : World) (b0 : 0 ≤ a0 ∧ a0 ≤ 255) (b1 : 0 ≤ a1 ∧ a1 ≤ 255)
    (hn : 0 ≤ n ∧ n ≤ 18446744073709551615) (hF : -9223372036854775808 ≤ F ∧ F ≤ 9223372036854775807) (hL : L ≤ 65536) (hns : ns ≤ 65536) (hc3 : L ≤ c3)
    (hD : ∀ t, t < L → 0 ≤ D t ∧ D t ≤ 255) (i3 : Inc w a3 L D) (i7 : Inc w a7 ns D2)
    (k3 : (a3 = none ∧ L = 0 ∧ c3 = 0) ∨ ∃ x, a3 = some x ∧ ∀ i, i < L → w.cell? (x.add i) = some (.int .u8 (D i))) (k7 : (a7 = none ∧ ns = 0 ∧ c7 = 0) ∨ ∃ x, a7 = some x ∧ ∀ i, i < ns → w.cell? (x.add i) = some (.int .u8 (D2 i))) :
    Calls Yba.prog 3 #[.int .u8 a0, .int .u8 a1, .int .u64 n, .slice a3 L c3, .bool a4, .bool a5, .int .i64 F, .slice a7 ns c7] w fun e w' => e = .returned (.bool true) ∧ Below w.heap.size w w' := by
  obtain ⟨b01, b02⟩ := b0
  obtain ⟨b11, b12⟩ := b1
  obtain ⟨bs, hbs⟩ : ∃ m : Nat, 1 + a0 % 16 = (m : Int) := ⟨(1 + a0 % 16).toNat, by omega⟩
  obtain ⟨ds, hds⟩ : ∃ m : Nat, 1 + a1 % 8 = (m : Int) := ⟨(1 + a1 % 8).toNat, by omega⟩
  have hbs1 : 0 < bs ∧ bs ≤ 16 := by omega
  have hds1 : 0 < ds ∧ ds ≤ 8 := by omega
  have g1 : decide ((65536 : Int) < (L : Int)) = false := by simp; omega
  have g2 : decide ((65536 : Int) < (ns : Int)) = false := by simp; omega
  have HX := hid_mk (And.intro hn (And.intro hF (And.intro hL (And.intro hns (And.intro hc3 (And.intro hD (And.intro i3 (And.intro i7 (And.intro k3 k7)))))))))
  clear hn hF hc3 hD i3 i7 k3 k7
  go_enter Yba.func3, Yba.ntmps3
  go_wp2_with fail
  have hk : ∀ {a : Option Addr} {m cc : Nat} {E : Nat → Int} {w1 : World}, ((a = none ∧ m = 0 ∧ cc = 0) ∨ ∃ x, a = some x ∧ ∀ i, i < m → w.cell? (x.add i) = some (.int .u8 (E i))) → Chg [] w w1 → ((a = none ∧ m = 0 ∧ cc = 0) ∨ ∃ x, a = some x ∧ ∀ i, i < m → w1.cell? (x.add i) = some (.int .u8 (E i))) := fun h hc => by
    rcases h with h | ⟨x, h1, h2⟩
    · exact .inl h
    · exact .inr ⟨x, h1, fun i hi => hc.cell (h2 i hi) (by simp)⟩
  have hc0 : Chg [] w ((w.alloc (.cells #[.int .i64 F] 3)).alloc (.cells #[.int .i64 ds] 3)) := ((Chg.refl [] w).alloc _).alloc _
  have hsz0 : ((w.alloc (.cells #[.int .i64 F] 3)).alloc (.cells #[.int .i64 ds] 3)).heap.size = w.heap.size + 2 := by simp
  have HC0 := hid_mk (And.intro hc0 hsz0)
  refine (clone_ok a3 L c3 D _ (by omega) (hk HX.out.2.2.2.2.2.2.2.2.1 hc0)).mono ?_
  rintro e w1 ⟨ad, cd, rfl, hadn, hdv, hch1⟩
  rw [hsz0] at hdv
  have hk7 := hk HX.out.2.2.2.2.2.2.2.2.2 (hc0.trans hch1)
  have HD := hid_mk (And.intro hdv hch1)
  clear hk hc0 hsz0 hdv hch1
  go_wp2_with fail
  refine (clone_ok a7 ns c7 D2 w1 (by omega) hk7).mono ?_
  rintro e w2 ⟨sa, cs, rfl, hsn, hsv, hch2⟩
  have HM := hid_mk (mid0 (bs := bs) HD.out.1 HD.out.2 hsv hch2 hsn ⟨#[112, 114, 101]⟩ ⟨#[100, 105, 103, 101, 115, 116]⟩)
  clear hk7 hadn hsn hsv hch2 HD HC0
  go_upto_if 69 with (go_at_call 5; refine (new_ok _ _).mono ?_; rintro e w' ⟨rfl, rfl⟩)
  simp only [Nat.add_assoc, Nat.reduceAdd]
  have m7 := HM.out
  clear HM
  generalize (((((((w2.alloc _).alloc _).alloc _).alloc _).alloc _).alloc _).alloc _) = W7 at m7 ⊢
  generalize w2.heap.size = B2 at m7 ⊢
  have HM := hid_mk m7
  have p6 : ∀ o, (W7.alloc o).cell? ⟨B2 + 6, 6, none⟩ = some (.pointer none) := fun o => (m7.p.alloc o).cell (i := 6) (by omega)
  have f6 : ∀ o, (W7.alloc o).frozen? ⟨B2 + 6, 6, none⟩ = false := fun o => (m7.p.alloc o).frozen 6
  clear m7
  go_cut [] (fun wx => ∃ op, Mid bs ds (B2 + 3) (w.heap.size + 1) (B2 + 5) (B2 + 4) w.heap.size (B2 + 2) (B2 + 6) (B2 + 1) L cd ns cs F op .nilIface sa ad a7 a4 D D2 w wx)
  case first => as_aux_lemma =>
    cases a4 with
    | true =>
      go_wp2_with fail
      go_meet
      case rel => exact ⟨_, HM.out.opens _ rfl⟩
    | false =>
      go_wp2_with fail
      go_meet
      case rel => exact ⟨_, HM.out⟩
  case rest => as_aux_lemma =>
    clear HM p6 f6
    obtain ⟨op, m8⟩ := hcut
    have p8 : wc.cell? ⟨B2 + 6, 8, none⟩ = some .nilIface := m8.p.cell (i := 8) (by omega)
    have f8 := m8.p.frozen 8
    have HM := hid_mk m8
    clear m8
    go_upto_if 76 with fail
    go_cut [] (fun wx => ∃ op, Mid bs ds (B2 + 3) (w.heap.size + 1) (B2 + 5) (B2 + 4) w.heap.size (B2 + 2) (B2 + 6) (B2 + 1) L cd ns cs F op (if a5 = true then .iface 60 (pt B2) else .nilIface) sa ad a7 a4 D D2 w wx)
    case first => as_aux_lemma =>
      cases a5 with
      | true =>
        go_wp2_with fail
        go_meet
        case rel => exact ⟨_, HM.out.err _⟩
      | false =>
        go_wp2_with fail
        go_meet
        case rel => exact ⟨_, HM.out⟩
    case rest => as_aux_lemma =>
      clear HM p8 f8
      obtain ⟨op2, m9⟩ := hcut
      obtain ⟨hn, hF, hL', hns', hc3, hD, i3, i7, -, -⟩ := HX.out
      apply_assumption
      exact segE _ _ _ _ _ _ _ _ _ _ _ _ _ _ _ _ _ _ _ _ _ _ _ _ _ _ _ _ _ _ _ _ _ _ _ _ _ _ _ _ _ _ _ _ _ _ _ _ _ _ _ _ _ _ _ _ _ _ _ _ _ _ _ _ _ _ _ _ _ _ _ _ _ _ _ _ _ _ _ _ _ _ _ _ _ _ _ _ _ _ _ _ _ _ _ _ _ _ _ _ _ _ _ _ _ _ _ _ _ _ _ _ _ _ _ _ _ _ _ _ _ _ _ _ _ _ _ _ _ _ _ _ _ _ _ _ _ _ _ _ _ _ _ _ _ _ _ _ _ _ _ _ _ _ _ _ _ _ _ _ _ _ _ _ _ _ _ _ _ _ _ _ _ _ _ _ _ _ _ _ _ _ _ _ _ _ _ _ _ _ _ _ _ _ _ _ _ _ _ _ _ _ _ _ _ _ _ _ _ _ _ _ _ _ _ _ _ _ _ _ _ _ _ _ _ _ _ _ _ _ _ _ _ _ _ _ _ _ _ _ _ _ _ _ _ _ _ _ _ _ _ _ _ _ _ _ _ _ _ _ _ _ _ _ _ a4 a5 n F w.heap.size (w.heap.size + 1) (B2 + 2) (B2 + 3) (B2 + 4) (B2 + 5) (B2 + 6) (B2 + 1) B2 ds bs L c3 cd ns cs c7 op2 a3 a7 sa ad D D2 w wc hn hF hds1 hbs1 hL' hns' hc3 hD i3 i7 m9
end Go.Proofs.Ybulkdkwu.lawS5597AWhole

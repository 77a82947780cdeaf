import Derived.Test.YbulkdkwuBase
namespace Go.Proofs.Ybulkdkwu.lawS5597AWhole
open Go.RowKit Go.Deep
set_option linter.unusedVariables false
set_option linter.unusedSimpArgs false

/-- A row that was o's, or one that is younger than w. -/
def OwnSince (o : Option Nat) (w : World) (v : Value) : Prop := ∀ g, v.ownBlock = some g → o = some g ∨ w.heap.size ≤ g

theorem OwnSince.chg {o : Option Nat} {w w1 w2 : World} {v : Value} (h : OwnSince o w v) (h1 : Chg o.toList w w1) (h2 : Chg v.ownBlock.toList w1 w2) : Chg o.toList w w2 :=
  h1.step h2 (by
    intro x hx hlt
    rw [Option.mem_toList] at hx
    rcases h x hx with h3 | h3
    · rw [h3]; simp
    · omega)

set_option maxRecDepth 100000 in
set_option maxHeartbeats 2000000 in
/-- hash: ds digests more. -/
theorem hash_ok (ix : Int) (n0 ds bs b off cb lvb dsb base c0 : Nat) (a0 : Option Addr) (V l : Nat → Int) (w : World) (hix : 0 ≤ ix ∧ ix ≤ 18446744073709551615) (hds : ds ≤ 8) (hbs : bs ≤ 16) (hn0 : n0 ≤ 1000000)
    (hV : ∀ j, j < ds → V (n0 + j) = dg ix j bs l) (hl : ∀ t, t < bs → w.cell? ⟨b, off + t, none⟩ = some (.int .u8 (l t)) ∧ 0 ≤ l t ∧ l t ≤ 255) (hd : w.cell? ⟨dsb, 0, none⟩ = some (.int .i64 ds))
    (hown : w.ownsRow base 5 1 (.slice a0 n0 c0) n0 (bl V n0)) (hb : (Value.slice a0 n0 c0).ownBlock ≠ some b) (hdb : (Value.slice a0 n0 c0).ownBlock ≠ some dsb) (hbase : base ≤ w.heap.size) :
    Calls Yba.prog 6 #[.slice a0 n0 c0, .int .i64 0, .int .u64 ix, .slice (some ⟨b, off, none⟩) bs cb, pt lvb, pt dsb] w fun e w' =>
      ∃ (a' : Option Addr) (c' : Nat), e = .returned (.slice a' (n0 + ds) c') ∧ w'.ownsRow base 5 1 (.slice a' (n0 + ds) c') (n0 + ds) (bl V (n0 + ds)) ∧ Chg (Value.slice a0 n0 c0).ownBlock.toList w w' ∧ OwnSince (Value.slice a0 n0 c0).ownBlock w (.slice a' (n0 + ds) c') := by
  obtain ⟨i0, hi, hz0, hz1, hz2⟩ := info_parts info5
  have HV := hid_mk hV
  have HL := hid_mk hl
  have HO := hid_mk hown
  generalize ho : (Value.slice a0 n0 c0).ownBlock = o at *
  have HO2 : Hid (OwnSince o w (.slice a0 n0 c0)) := fun g hg => .inl (by rw [← ho]; exact hg)
  clear hV hl hown ho
  go_enter Yba.func6, Yba.ntmps6
  go_wp2_with fail
  go_loopg [0, 11] ds (fun gk s0 s11 wr => ∃ (j : Nat) (a : Option Addr) (c : Nat), j + gk = ds ∧ s11 = .int .i64 j ∧ s0 = .slice a (n0 + j) c ∧ wr.ownsRow base 5 1 (.slice a (n0 + j) c) (n0 + j) (bl V (n0 + j)) ∧ Chg o.toList w wr ∧ OwnSince o w (.slice a (n0 + j) c))
  case atStart => exact ⟨0, a0, c0, by omega, rfl, rfl, HO.out, Chg.refl _ w, HO2.out⟩
  case round =>
    obtain ⟨j, a, c, hgk, rfl, rfl, hown, hch, hos⟩ := hrel
    have hdw := hch.cell hd (by rw [Option.mem_toList]; exact hdb)
    by_cases hj : j < ds
    · have hji : (j : Int) < (ds : Int) := by omega
      have hc7 := digest_walk ix j b off bs cb l wr hix (by omega) hbs (fun t ht => ⟨hch.cell (HL.out t ht).1 (by rw [Option.mem_toList]; exact hb), (HL.out t ht).2⟩)
      rw [← HV.out j hj] at hc7
      have hsz := hch.size
      have hnb : Hid (∀ o, (wr.alloc o).heap[wr.heap.size]? = some o) := fun o => heap_alloc_new wr o
      have HO3 := hid_mk hown
      clear hown
      go_wp2_with (first | (go_at_call 7; refine hc7.mono ?_; rintro e w' ⟨rfl, rfl⟩) | (at_builtin; go_must (refine wpList_append_lies _ rfl (.tmp 19) (.tmp 24) 23 rfl base 5 i0 _ 1 1 Yba.underlying23 hi hz0 hz1 hz2 rfl (by decide) _ (n0 + j) (bl V (n0 + j)) rfl (by exact HO3.out.alloc _) ⟨_, 0, none⟩ 1 1 [.int .u8 (V (n0 + j))] rfl rfl (World.news_of_block (by exact hnb.out _)) (by intro u hu; simp at hu; subst hu; rfl) (by decide) (by unfold maxLen; omega) (by omega) (by simp; omega) _ rfl ?_)))
      intro g' c2 w2 hown2 hgrow2 hat2 hlt2
      rw [← bl_succ] at hown2
      have hch1 : Chg (Value.slice a (n0 + j) c).ownBlock.toList w' w2 := ((Chg.refl _ w').alloc _).grown hgrow2 (by intro b hb _; rw [hb]; simp)
      have hch2 := hos.chg hch hch1
      have hos2 : OwnSince o w (.slice (some ⟨g', 0, none⟩) (n0 + j + 1) c2) := by
        intro g hg
        simp [Value.ownBlock] at hg
        subst hg
        rcases hat2 with h | h
        · exact hos _ h
        · exact .inr (by omega)
      clear hgrow2 hat2 hlt2 hch1 hos hch hc7 hnb HO3 hdw
      go_wp2_with fail
      go_roundg (gk - 1)
      case rel => exact ⟨j + 1, _, c2, by omega, by go_num, rfl, hown2, hch2, hos2⟩
      case measure => omega
    · obtain rfl : j = ds := by omega
      clear hj hgk
      go_wp2_with fail
      go_ret
      exact ⟨a, c, rfl, hown, hch, hos⟩

/-- The digests of whole blocks, one behind the other. -/
def dig (n : Int) (ds bs : Nat) (D : Nat → Int) (q : Nat) : Int := dg ((n + (q / ds : Nat)) % 18446744073709551616) (q % ds) bs (fun t => D (q / ds * bs + t))
theorem dig_at (n : Int) {ds : Nat} (bs : Nat) (D : Nat → Int) (i j : Nat) (hj : j < ds) : dig n ds bs D (i * ds + j) = dg ((n + (i : Nat)) % 18446744073709551616) j bs (fun t => D (i * bs + t)) := by
  have h1 : (i * ds + j) / ds = i := by
    rw [Nat.mul_comm, Nat.mul_add_div (by omega), Nat.div_eq_of_lt hj, Nat.add_zero]
  have h2 : (i * ds + j) % ds = j := by
    rw [Nat.mul_comm, Nat.mul_add_mod, Nat.mod_eq_of_lt hj]
  unfold dig
  rw [h1, h2]

set_option maxRecDepth 100000 in
set_option maxHeartbeats 2000000 in
/-- appendDigests. -/
theorem append_ok (n : Int) (k ds bs b cb lvb dsb base c0 : Nat) (a0 ab : Option Addr) (D : Nat → Int) (w : World) (hn : 0 ≤ n ∧ n ≤ 18446744073709551615) (hds : 0 < ds ∧ ds ≤ 8) (hbs : 0 < bs ∧ bs ≤ 16) (hk : k * bs ≤ 65536)
    (hab : k = 0 ∨ ab = some ⟨b, 0, none⟩) (hcb : k * bs ≤ cb)
    (hl : ∀ t, t < k * bs → w.cell? ⟨b, t, none⟩ = some (.int .u8 (D t)) ∧ 0 ≤ D t ∧ D t ≤ 255) (hd : w.cell? ⟨dsb, 0, none⟩ = some (.int .i64 ds))
    (hown : w.ownsRow base 5 1 (.slice a0 0 c0) 0 []) (hb : (Value.slice a0 0 c0).ownBlock ≠ some b) (hdb : (Value.slice a0 0 c0).ownBlock ≠ some dsb) (hblt : k = 0 ∨ b < w.heap.size) (hdlt : dsb < w.heap.size) (hbase : base ≤ w.heap.size) :
    Calls Yba.prog 13 #[.func (.func 6) #[] #[pt lvb, pt dsb], .slice a0 0 c0, .int .u64 n, .slice ab (k * bs) cb, .int .i64 bs] w fun e w' =>
      ∃ (a' : Option Addr) (c' : Nat), e = .returned (.slice a' (k * ds) c') ∧ w'.ownsRow base 5 1 (.slice a' (k * ds) c') (k * ds) (bl (dig n ds bs D) (k * ds)) ∧ Chg (Value.slice a0 0 c0).ownBlock.toList w w' ∧ OwnSince (Value.slice a0 0 c0).ownBlock w (.slice a' (k * ds) c') := by
  obtain ⟨hn1, hn2⟩ := hn
  obtain ⟨hd1, hd2⟩ := hds
  obtain ⟨hb1, hb2⟩ := hbs
  have HL := hid_mk hl
  have HO := hid_mk hown
  generalize ho : (Value.slice a0 0 c0).ownBlock = o at *
  have HO2 : Hid (OwnSince o w (.slice a0 0 c0)) := fun g hg => .inl (by rw [← ho]; exact hg)
  clear hl hown ho
  have HQ : Hid (0 = 0 * ds ∧ bl (dig n ds bs D) (0 * ds) = []) := ⟨by simp, by simp [bl]⟩
  go_enter Yba.func13, Yba.ntmps13
  go_wp2_with fail
  go_loopg [1, 2, 11] k (fun gk s1 s2 s11 wr => ∃ (i : Nat) (a : Option Addr) (c : Nat), i + gk = k ∧ s11 = .int .i64 (i * bs : Nat) ∧ s2 = .int .u64 ((n + (i : Nat)) % 18446744073709551616) ∧ s1 = .slice a (i * ds) c ∧ wr.ownsRow base 5 1 (.slice a (i * ds) c) (i * ds) (bl (dig n ds bs D) (i * ds)) ∧ Chg o.toList w wr ∧ OwnSince o w (.slice a (i * ds) c))
  case atStart => exact ⟨0, a0, c0, by omega, by simp, by simp; omega, by simp, by simpa [bl] using HO.out, Chg.refl _ w, by simpa using HO2.out⟩
  case round =>
    obtain ⟨i, a, c, hgk, rfl, rfl, rfl, hown, hch, hos⟩ := hrel
    by_cases hi : i < k
    · rcases hab with hab | rfl
      · omega
      rcases hblt with hblt | hblt
      · omega
      have hib : i * bs + bs ≤ k * bs := by rw [← Nat.succ_mul]; exact Nat.mul_le_mul_right _ hi
      have hid : i * ds + ds ≤ k * ds := by rw [← Nat.succ_mul]; exact Nat.mul_le_mul_right _ hi
      have hkd : i * ds ≤ 1000000 := by
        have h1 : i ≤ i * bs := Nat.le_mul_of_pos_right _ hb1
        have h2 : i * ds ≤ i * 8 := Nat.mul_le_mul_left _ hd2
        omega
      have hix : 0 ≤ (n + (i : Nat)) % 18446744073709551616 ∧ (n + (i : Nat)) % 18446744073709551616 ≤ 18446744073709551615 := by omega
      have hc6 := hash_ok ((n + (i : Nat)) % 18446744073709551616) (i * ds) ds bs b (i * bs) (cb - i * bs) lvb dsb base c a (dig n ds bs D) (fun t => D (i * bs + t)) wr hix hd2 hb2 hkd (fun j hj => dig_at n bs D i j hj)
        (fun t ht => ⟨hch.cell (HL.out (i * bs + t) (by omega)).1 (by rw [Option.mem_toList]; exact hb), (HL.out (i * bs + t) (by omega)).2⟩) (hch.cell hd (by rw [Option.mem_toList]; exact hdb)) hown
        (fun h => by rcases hos _ h with h | h; exact hb h; omega) (fun h => by rcases hos _ h with h | h; exact hdb h; omega) (by have := hch.size; omega)
      generalize hIB : i * bs = ib at *
      generalize hID : i * ds = id at *
      have HIB := hid_mk (And.intro hIB hID)
      have hlt2 : (ib : Int) < ((k * bs : Nat) : Int) := by omega
      generalize hKB : k * bs = kb at *
      have HKB := hid_mk hKB
      have HN := hid_mk (And.intro hn1 hn2)
      clear hIB hID hown hKB hn1 hn2
      go_wp2_with fail
      refine hc6.mono ?_
      rintro e w2 ⟨a2, c2, rfl, hown2, hch2, hos2⟩
      have hch3 := hos.chg hch hch2
      have hos3 : OwnSince o w (.slice a2 (id + ds) c2) := fun g hg => by
        rcases hos2 g hg with h | h
        · exact hos g h
        · exact .inr (by have := hch.size; omega)
      have hix2 := hix.2
      have hix1 := hix.1
      clear hc6 hch hos hch2 hos2 hix
      go_wp2_with fail
      go_roundg (gk - 1)
      case rel =>
        obtain ⟨e1, e2⟩ := HIB.out
        have e3 : (i + 1) * bs = ib + bs := by rw [Nat.succ_mul, e1]
        have e4 : (i + 1) * ds = id + ds := by rw [Nat.succ_mul, e2]
        refine ⟨i + 1, a2, c2, by omega, by rw [e3]; go_num, ?_, by rw [e4], by rw [e4]; exact hown2, hch3, by rw [e4]; exact hos3⟩
        have := HN.out
        congr 1
        rw [IntKind.wrap_u64]
        omega
      case measure => omega
    · obtain rfl : i = k := by omega
      clear hi hgk
      go_wp2_with fail
      go_ret
      exact ⟨a, c, rfl, hown, hch, hos⟩
end Go.Proofs.Ybulkdkwu.lawS5597AWhole

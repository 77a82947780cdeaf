import Derived.Test.YbulkdkxiRows
import Derived.Sort.AssemblyPlain
import Derived.Sort.WalkA
import Derived.Sort.WalkA6
import Derived.Sort.WalkB3
import Derived.Sort.WalkC
import Derived.WalkKit
import Derived.WalkLawsBesides
import Derived.WalkSpells
import Derived.ProofKit
import Derived.Deep.LoopGhost
import Derived.Deep.DeepMust
import Derived.Deep.DeepCutAuto
import Derived.Deep.CutBlock
import Derived.Deep.QuietTactic
import Derived.Deep.RegionWith
import Derived.Deep.RegionHeld3
import Derived.BigQuiet
import Derived.BigRegion
import Derived.Shelf.RegionOpenPlain
import Derived.Below
import Derived.Deep.OwnRows
import Derived.Deep.AppendLies
import Derived.Deep.Draws
/-! What a sort is told of the worlds that it passes: no walk. -/
namespace Go.Proofs.Ybulkdkxi.lawS5598AWhole
open Go.RowKit Go.Deep
open Go.Sort (swp)
set_option linter.unusedVariables false

theorem hid_mk {p : Prop} (h : p) : Hid p := h
abbrev pt (b : Nat) : Value := .pointer (some ⟨b, 0, none⟩)
abbrev uV (x : Int) : Value := .int .u32 x

/-- The worlds of a sort of the n cells of block blk: 'S d w': the row holds d. -/
structure Env (blk n : Nat) (S : Array Int → World → Prop) : Prop where
  size : ∀ {d w}, S d w → d.size = n
  cell : ∀ {d w}, S d w → ∀ i, i < n → w.cell? ⟨blk, i, none⟩ = some (uV d[i]!)
  frz : ∀ {d w}, S d w → ∀ i, i < n → w.frozen? ⟨blk, i, none⟩ = false
  drewN : ∀ {d w}, S d w → ∀ k, S d (w.drewN k)
  swap : ∀ {d w}, S d w → ∀ i j, i < n → j < n → S (swp d i j) ((w.setCell ⟨blk, i, none⟩ (uV d[j]!)).setCell ⟨blk, j, none⟩ (uV d[i]!))

theorem Env.drew {blk n : Nat} {S : Array Int → World → Prop} (E : Env blk n S) {d : Array Int} {w : World} (h : S d w) : S d w.drew := E.drewN h 1

theorem mixedY : Yba.prog.follows Departure.mixedOrders = true := by kernel_rfl

/-- The test of the one family: the function value over function 16. 'S t d w': t tests more may be made. -/
structure CmpOk (n ob db : Nat) (cf : Int → Int → Int) (S : Nat → Array Int → World → Prop) : Prop where
  call : ∀ (t : Nat) (d : Array Int) (w : World), S t d w → ∀ i j, i < n → j < n → 0 < t → Calls Yba.prog 16 #[uV d[i]!, uV d[j]!, pt ob, pt db] w fun e w' => e = .returned (.int .i64 (cf d[i]! d[j]!)) ∧ S (t - 1) d w'
  mono : ∀ {t t' : Nat} {d : Array Int} {w : World}, S t d w → t' ≤ t → S t' d w

def ltc (cf : Int → Int → Int) (x y : Int) : Bool := decide (cf x y < 0)

abbrev cmpV (ob db : Nat) : Value := .func (.func 16) #[] #[pt ob, pt db]

/-- The test of the other family: cmp.Less[uint32]. -/
structure LessOk (n : Nat) (lt : Int → Int → Bool) (S : Array Int → World → Prop) : Prop where
  call : ∀ (d : Array Int) (w : World), S d w → ∀ i j, i < n → j < n → Calls Yba.prog 20 #[uV d[i]!, uV d[j]!] w fun e w' => e = .returned (.bool (lt d[i]! d[j]!)) ∧ S d w'

/-- Where the two scans have not passed one another they stand apart. -/
theorem scan_lt (p q : Int → Bool) (hq : ∀ x, q x = !p x) (d : Array Int) (i j i2 j2 : Nat) (h1 : i2 = Sort.scanUp p d j i) (h2 : j2 = Sort.scanDown q d i2 j) (hle : i2 ≤ j2) (h0 : 0 < i2) : i2 < j2 := by
  have u := Sort.scanUp_spec p d j _ i rfl
  rw [← h1] at u
  have v := Sort.scanDown_spec q d i2 j
  rw [← h2] at v
  rcases Nat.lt_or_ge i2 j2 with hlt | hge
  · exact hlt
  · have a1 := u.2.2.2 (by omega)
    have a2 := v.2.2.2 hle (by omega)
    rw [hq, show j2 = i2 by omega, a1] at a2
    cases a2

/-- A counter in a block of its own. -/
structure Ctr (c : Nat) (T : Array Int → World → Prop) : Prop where
  cell : ∀ {d w}, T d w → ∃ s, w.cell? ⟨c, 0, none⟩ = some (.int .i64 s)
  frz : ∀ {d w}, T d w → w.frozen? ⟨c, 0, none⟩ = false
  set : ∀ {d w}, T d w → ∀ s, T d (w.setCell ⟨c, 0, none⟩ (.int .i64 s))

/-- A cell of the random numbers' in a block of its own. -/
structure Rnd (c : Nat) (T : Array Int → World → Prop) : Prop where
  cell : ∀ {d w}, T d w → ∃ s : Nat, s < 18446744073709551616 ∧ w.cell? ⟨c, 0, none⟩ = some (.int .u64 s)
  frz : ∀ {d w}, T d w → w.frozen? ⟨c, 0, none⟩ = false
  set : ∀ {d w}, T d w → ∀ s : Nat, s < 18446744073709551616 → T d (w.setCell ⟨c, 0, none⟩ (.int .u64 s))
def RndOk (blk n : Nat) (S : Array Int → World → Prop) : Prop :=
  ∀ (d : Array Int) (w : World) (v : Nat), v < 18446744073709551616 → S d w → ∃ T : Array Int → World → Prop, Env blk n T ∧ Rnd w.heap.size T ∧ T d (w.alloc (.cells #[.int .u64 v] 69)) ∧ ∀ d' w', T d' w' → S d' w'

theorem Env.swapD {blk n : Nat} {S : Array Int → World → Prop} (E : Env blk n S) {d : Array Int} {w : World} (h : S d w) (i j : Nat) (hi : i < n) (hj : j < n) : S (swp d i j) ((w.setCell ⟨blk, i, none⟩ (uV d[j]!)).setCell ⟨blk, j, none⟩ (uV d[i]!)).drew := E.drew (E.swap h i j hi hj)

/-- Behind the exchange's first store the second place still holds something. -/
theorem Env.again {blk n : Nat} {S : Array Int → World → Prop} (E : Env blk n S) {d : Array Int} {w : World} (h : S d w) (i j : Nat) (hi : i < n) (hj : j < n) (v : Value) :
    ∃ u, (w.setCell ⟨blk, i, none⟩ v).cell? ⟨blk, j, none⟩ = some u := by
  by_cases e : i = j
  · subst e; exact ⟨v, World.cell?_setCell_same _ _ _ (E.cell h i hi)⟩
  · exact ⟨_, (World.cell?_setCell_other _ _ _ _ (by intro e'; simp only [Addr.mk.injEq] at e'; omega)).trans (E.cell h j hj)⟩

end Go.Proofs.Ybulkdkxi.lawS5598AWhole

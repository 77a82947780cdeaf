import Derived.Test.YbulkdkxiMem
import Derived.Laws.BitsAllLaws
import Derived.Laws.MathBits
/-! The functions without a state: the law's decode, the order. -/
namespace Go.Proofs.Ybulkdkxi.lawS5598AWhole
open Go.RowKit Go.Deep
set_option linter.unusedVariables false
set_option linter.unusedSimpArgs false

/-- zzs5598adec. -/
def decF (mask : Int) (neg : Bool) (x : Int) : Int := if neg then -((x.toNat ^^^ mask.toNat : Nat) : Int) else ((x.toNat ^^^ mask.toNat : Nat) : Int)

/-- A number of 32 bits. -/
def U (x : Int) : Prop := 0 ≤ x ∧ x < 4294967296

theorem decF_inj (mask : Int) (neg : Bool) {x y : Int} (hx : U x) (hy : U y) (h : decF mask neg x = decF mask neg y) : x = y := by
  obtain ⟨hx1, hx2⟩ := hx
  obtain ⟨hy1, hy2⟩ := hy
  have e : x.toNat ^^^ mask.toNat = y.toNat ^^^ mask.toNat := by
    unfold decF at h
    cases neg <;> simp at h <;> omega
  have e2 := congrArg (fun z => z ^^^ mask.toNat) e
  simp only [Nat.xor_assoc, Nat.xor_self, Nat.xor_zero] at e2
  omega

theorem decF_range (mask : Int) (neg : Bool) {x : Int} (hx : U x) (hm : U mask) : -4294967296 < decF mask neg x ∧ decF mask neg x < 4294967296 := by
  have h : x.toNat ^^^ mask.toNat < 2 ^ 32 := Nat.xor_lt_two_pow (by have := hx.2; have := hx.1; omega) (by have := hm.2; have := hm.1; omega)
  unfold decF
  cases neg <;> simp <;> omega

set_option maxRecDepth 100000 in
set_option maxHeartbeats 1000000 in
theorem dec_y (x mask : Int) (neg : Bool) (w : World) (hx : U x) (hm : U mask) : Calls Yba.prog 5 #[uV x, uV mask, .bool neg] w fun e w' => e = .returned (.int .i64 (decF mask neg x)) ∧ w' = w := by
  have hb : bits .xor .u32 x mask = ((x.toNat ^^^ mask.toNat : Nat) : Int) := u32_xor x mask hx.1 hx.2 hm.1 hm.2
  have hl : x.toNat ^^^ mask.toNat < 2 ^ 32 := Nat.xor_lt_two_pow (by have := hx.2; have := hx.1; omega) (by have := hm.2; have := hm.1; omega)
  have HD : Hid (decF mask neg x = if neg then -((x.toNat ^^^ mask.toNat : Nat) : Int) else ((x.toNat ^^^ mask.toNat : Nat) : Int)) := rfl
  generalize x.toNat ^^^ mask.toNat = v at hb hl HD
  have hl2 : (v : Int) < 4294967296 := by omega
  clear hx hm hl
  cases neg with
  | true =>
    go_enter Yba.func5, Yba.ntmps5
    go_wp2_with fail
    go_ret
    exact ⟨by rw [HD.out]; simp, rfl⟩
  | false =>
    go_enter Yba.func5, Yba.ntmps5
    go_wp2_with fail
    go_ret
    exact ⟨by rw [HD.out]; simp, rfl⟩

/-- cmp.Compare at ints. -/
def cmpI (x y : Int) : Int := if x < y then -1 else if y < x then 1 else 0

set_option maxRecDepth 100000 in
set_option maxHeartbeats 1000000 in
theorem isNaN13 (x : Int) (w : World) : Calls Yba.prog 13 #[.int .i64 x] w fun e w' => e = .returned (.bool false) ∧ w' = w := by
  go_enter Yba.func13, Yba.ntmps13
  go_wp2_with fail
  go_ret
  exact ⟨rfl, rfl⟩

set_option maxRecDepth 100000 in
set_option maxHeartbeats 1000000 in
theorem cmp_y (x y : Int) (w : World) : Calls Yba.prog 7 #[.int .i64 x, .int .i64 y] w fun e w' => e = .returned (.int .i64 (cmpI x y)) ∧ w' = w := by
  by_cases h1 : x < y
  · have HD : Hid (cmpI x y = -1) := by show _ = _; simp [cmpI, h1]
    go_enter Yba.func7, Yba.ntmps7
    go_wp2_with (first | (go_at_call 13; refine (isNaN13 _ _).mono ?_; rintro e w' ⟨rfl, rfl⟩))
    go_ret
    exact ⟨by rw [HD.out]; rfl, rfl⟩
  · by_cases h2 : y < x
    · have HD : Hid (cmpI x y = 1) := by show _ = _; simp [cmpI, h1, h2]
      go_enter Yba.func7, Yba.ntmps7
      go_wp2_with (first | (go_at_call 13; refine (isNaN13 _ _).mono ?_; rintro e w' ⟨rfl, rfl⟩))
      go_ret
      exact ⟨by rw [HD.out]; rfl, rfl⟩
    · have HD : Hid (cmpI x y = 0) := by show _ = _; simp [cmpI, h1, h2]
      go_enter Yba.func7, Yba.ntmps7
      go_wp2_with (first | (go_at_call 13; refine (isNaN13 _ _).mono ?_; rintro e w' ⟨rfl, rfl⟩))
      go_ret
      exact ⟨by rw [HD.out]; rfl, rfl⟩

set_option maxRecDepth 100000 in
set_option maxHeartbeats 1000000 in
theorem key_y (x y : Int) (w : World) (hx : -4294967296 < x ∧ x < 4294967296) (hy : -4294967296 < y ∧ y < 4294967296) : Calls Yba.prog 6 #[.int .i64 x, .int .i64 y] w fun e w' => e = .returned (.int .i64 (cmpI (x / 4) (y / 4))) ∧ w' = w := by
  have hc := hid_mk (cmp_y (x / 4) (y / 4) w)
  obtain ⟨h1, h2⟩ := hx
  obtain ⟨h3, h4⟩ := hy
  go_enter Yba.func6, Yba.ntmps6
  go_wp2_with (first | (go_at_call 7; refine hc.out.mono ?_; rintro e w' ⟨rfl, rfl⟩))
  go_ret
  exact ⟨rfl, rfl⟩

theorem i64_and3 (n : Int) : bits .and .i64 n 3 = n % 4 := by
  have h3 : (BitVec.ofInt 64 3).toNat = 2 ^ 2 - 1 := by decide
  have key : (BitVec.ofInt 64 n &&& BitVec.ofInt 64 3).toNat = (n % ((2 ^ 64 : Nat) : Int)).toNat % 2 ^ 2 := by
    rw [BitVec.toNat_and, BitVec.toNat_ofInt, h3, Nat.and_two_pow_sub_one_eq_mod]
  show IntKind.i64.wrap ((BitVec.ofInt 64 n &&& BitVec.ofInt 64 3).toNat : Nat) = n % 4
  rw [key, IntKind.wrap_i64]
  omega

set_option maxRecDepth 100000 in
set_option maxHeartbeats 1000000 in
theorem content_y (x y : Int) (w : World) (hx : -4294967296 < x ∧ x < 4294967296) (hy : -4294967296 < y ∧ y < 4294967296) : Calls Yba.prog 8 #[.int .i64 x, .int .i64 y] w fun e w' => e = .returned (.int .i64 (cmpI (x % 4) (y % 4))) ∧ w' = w := by
  have hc := hid_mk (cmp_y (x % 4) (y % 4) w)
  obtain ⟨h1, h2⟩ := hx
  obtain ⟨h3, h4⟩ := hy
  have e1 := i64_and3 x
  have e2 := i64_and3 y
  go_enter Yba.func8, Yba.ntmps8
  go_wp2_with (first | (go_at_call 7; refine hc.out.mono ?_; rintro e w' ⟨rfl, rfl⟩))
  go_ret
  exact ⟨rfl, rfl⟩

abbrev oV : Value := .agg #[.func (.func 6) #[] #[], .func (.func 8) #[] #[]]

set_option maxRecDepth 100000 in
set_option maxHeartbeats 1000000 in
theorem order_y (x y : Int) (w : World) (hx : -4294967296 < x ∧ x < 4294967296) (hy : -4294967296 < y ∧ y < 4294967296) : Calls Yba.prog 17 #[oV, .int .i64 x, .int .i64 y] w fun e w' => e = .returned (.int .i64 (cmpI x y)) ∧ w' = w.alloc (.cells #[.func (.func 6) #[] #[], .func (.func 8) #[] #[]] 29) := by
  have hk := hid_mk (fun w => key_y x y w hx hy)
  have hc := hid_mk (fun w => content_y x y w hx hy)
  have HA : Hid (cmpI x y = if cmpI (x / 4) (y / 4) = 0 then cmpI (x % 4) (y % 4) else cmpI (x / 4) (y / 4)) := by
    show _ = _
    unfold cmpI
    split <;> split <;> (try split) <;> (try split) <;> (try split) <;> first | omega | rfl
  clear hx hy
  generalize cmpI (x / 4) (y / 4) = k at *
  generalize cmpI (x % 4) (y % 4) = c at *
  by_cases h0 : k = 0
  · subst h0
    go_enter Yba.func17, Yba.ntmps17
    go_wp2_with (first | (go_at_call 6; refine (hk.out _).mono ?_; rintro e w' ⟨rfl, rfl⟩) | (go_at_call 8; refine (hc.out _).mono ?_; rintro e w' ⟨rfl, rfl⟩))
    go_ret
    exact ⟨by rw [HA.out]; simp, rfl⟩
  · go_enter Yba.func17, Yba.ntmps17
    go_wp2_with (first | (go_at_call 6; refine (hk.out _).mono ?_; rintro e w' ⟨rfl, rfl⟩) | (go_at_call 8; refine (hc.out _).mono ?_; rintro e w' ⟨rfl, rfl⟩))
    go_ret
    exact ⟨by rw [HA.out, if_neg h0]; rfl, rfl⟩

end Go.Proofs.Ybulkdkxi.lawS5598AWhole

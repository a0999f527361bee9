/-
  The callees of the two laws over 'compare': 'compare' (14) and 'ZZcompare' (7), one contract each; and the plain facts on 64-bit words.
-/
import Derived.Test.Qxb6619223aRows
import Derived.WalkKit
import Derived.WalkSpells
import Derived.WalkLawsBesides
import Derived.Laws.BitsAllLaws
import Derived.Laws.MathBits
namespace Go.Proofs.Qxb6619223a
open Go.RowKit

/-- What 'compare' answers. -/
def cmpZ (x y : Int) : Int := if x < y then -1 else if y < x then 1 else 0

theorem cmpZ_lt {x y : Int} (h : x < y) : cmpZ x y = -1 := by simp [cmpZ, h]
theorem cmpZ_gt {x y : Int} (h : y < x) : cmpZ x y = 1 := by
  unfold cmpZ; rw [if_neg (by omega), if_pos h]
theorem cmpZ_eq (x : Int) : cmpZ x x = 0 := by simp [cmpZ]

theorem compare_any (x y : Int) (w : World) :
    Calls Try.prog 14 #[.int .u64 x, .int .u64 y] w fun e w' => e = .returned (.int .i64 (cmpZ x y)) ∧ w' = w := by
  by_cases h1 : x < y
  · rw [cmpZ_lt h1]
    go_enter Try.func14, Try.ntmps14
    go_wp2
    go_ret
    exact ⟨rfl, rfl⟩
  · by_cases h2 : y < x
    · rw [cmpZ_gt h2]
      go_enter Try.func14, Try.ntmps14
      go_wp2
      go_ret
      exact ⟨rfl, rfl⟩
    · have e : x = y := by omega
      subst e
      rw [cmpZ_eq]
      go_enter Try.func14, Try.ntmps14
      go_wp2
      go_ret
      exact ⟨rfl, rfl⟩

theorem zzcompare_any (x y : Int) (w : World) :
    Calls Try.prog 7 #[.int .u64 x, .int .u64 y] w fun e w' => e = .returned (.int .i64 (cmpZ x y)) ∧ w' = w := by
  go_enter Try.func7, Try.ntmps7
  go_wp2_with (go_at_call 14; refine (compare_any _ _ _).mono ?_; rintro e w' ⟨rfl, rfl⟩)
  go_ret
  exact ⟨rfl, rfl⟩
theorem tb63 (n : Nat) (h : n < 18446744073709551616) : n.testBit 63 = decide (9223372036854775808 ≤ n) := by
  rw [Nat.testBit_eq_decide_div_mod_eq]
  have : (2:Nat)^63 = 9223372036854775808 := by decide
  rw [this]
  by_cases h1 : 9223372036854775808 ≤ n
  · simp [h1]; omega
  · simp [h1]; omega
theorem top63 (n : Nat) (h : n < 18446744073709551616) : n / 9223372036854775808 = (n.testBit 63).toNat := by
  rw [tb63 n h]
  by_cases h1 : 9223372036854775808 ≤ n
  · simp [h1]; omega
  · simp [h1]; omega
theorem mtb : Nat.testBit 18446744073709551615 63 = true := by decide +kernel
theorem lt64_and (a b : Nat) (h : b < 18446744073709551616) : a &&& b < 18446744073709551616 := Nat.and_lt_two_pow (n := 64) a h
theorem lt64_or (a b : Nat) (ha : a < 18446744073709551616) (h : b < 18446744073709551616) : a ||| b < 18446744073709551616 := Nat.or_lt_two_pow (n := 64) ha h
theorem lt64_xor (a b : Nat) (ha : a < 18446744073709551616) (h : b < 18446744073709551616) : a ^^^ b < 18446744073709551616 := Nat.xor_lt_two_pow (n := 64) ha h

theorem borrow_nat (x y d : Nat) (hx : x < 18446744073709551616) (hy : y < 18446744073709551616) (hd : d = (x + 18446744073709551616 - y) % 18446744073709551616) :
    (((18446744073709551615 ^^^ x) &&& y) ||| ((18446744073709551615 ^^^ (x ^^^ y)) &&& d)) / 9223372036854775808 = if x < y then 1 else 0 := by
  have hd' : d < 18446744073709551616 := by omega
  rw [top63 _ (lt64_or _ _ (lt64_and _ _ hy) (lt64_and _ _ hd'))]
  simp only [Nat.testBit_or, Nat.testBit_and, Nat.testBit_xor, mtb, tb63 x hx, tb63 y hy, tb63 d hd']
  by_cases h1 : 9223372036854775808 ≤ x <;> by_cases h2 : 9223372036854775808 ≤ y <;> by_cases h3 : 9223372036854775808 ≤ d <;> by_cases h4 : x < y <;> simp [h1, h2, h3, h4] <;> omega

/-- The borrow of 'x - y' as the Go text reckons it, in the walk's own spelling. -/
theorem borrow_int (x y : Int) (hx : 0 ≤ x) (hx' : x < 18446744073709551616) (hy : 0 ≤ y) (hy' : y < 18446744073709551616) :
    bits BinOp.or IntKind.u64 (bits BinOp.and IntKind.u64 (bits BinOp.xor IntKind.u64 (if IntKind.u64.signed = true then -1 else IntKind.u64.max) x) y)
      (bits BinOp.and IntKind.u64 (bits BinOp.xor IntKind.u64 (if IntKind.u64.signed = true then -1 else IntKind.u64.max) (bits BinOp.xor IntKind.u64 x y)) (IntKind.u64.wrap (x - y))) / 9223372036854775808
    = if x < y then 1 else 0 := by
  have em : (if IntKind.u64.signed = true then -1 else IntKind.u64.max) = ((18446744073709551615 : Nat) : Int) := by decide
  obtain ⟨x, rfl⟩ := Int.eq_ofNat_of_zero_le hx
  obtain ⟨y, rfl⟩ := Int.eq_ofNat_of_zero_le hy
  have ed : IntKind.u64.wrap ((x : Int) - y) = (((x + 18446744073709551616 - y) % 18446744073709551616 : Nat) : Int) := by
    rw [IntKind.wrap_u64]; omega
  have bx : x < 18446744073709551616 := by omega
  have by' : y < 18446744073709551616 := by omega
  have bm : 18446744073709551615 < 18446744073709551616 := by decide
  rw [em, ed]
  generalize hd : (x + 18446744073709551616 - y) % 18446744073709551616 = d
  have bd : d < 18446744073709551616 := by omega
  rw [u64_xor_nat _ x bm bx, u64_xor_nat x y bx by', u64_xor_nat _ _ bm (lt64_xor _ _ bx by'), u64_and_nat _ y (lt64_xor _ _ bm bx) by', u64_and_nat _ d (lt64_xor _ _ bm (lt64_xor _ _ bx by')) bd,
    u64_or_nat _ _ (lt64_and _ _ by') (lt64_and _ _ bd)]
  have := borrow_nat x y d bx by' hd.symm
  by_cases h : x < y
  · rw [if_pos h] at this
    rw [if_pos (by omega)]
    omega
  · rw [if_neg h] at this
    rw [if_neg (by omega)]
    omega

theorem diff_ne (x y : Int) (hx : 0 ≤ x) (hx' : x < 18446744073709551616) (hy : 0 ≤ y) (hy' : y < 18446744073709551616) :
    (IntKind.u64.wrap (x - y) != 0) = decide (x ≠ y) := by
  rw [IntKind.wrap_u64, Bool.eq_iff_iff]
  simp
  omega

/-- The low half. -/
theorem low_int (x : Int) (hx : 0 ≤ x) (hx' : x < 18446744073709551616) : bits BinOp.and IntKind.u64 x 4294967295 = x % 4294967296 := and_low32 x hx hx'

/-- The complement. -/
theorem compl_nat (x : Nat) (hx : x < 18446744073709551616) : 18446744073709551615 ^^^ x = 18446744073709551615 - x := by
  have e : (18446744073709551615 : Nat) = 2 ^ 64 - 1 := by decide
  apply Nat.eq_of_testBit_eq
  intro i
  have e2 : 18446744073709551615 - x = 2 ^ 64 - (x + 1) := by omega
  rw [Nat.testBit_xor, e2, Nat.testBit_two_pow_sub_succ (by simpa using hx), e, Nat.testBit_two_pow_sub_one]
  by_cases h : i < 64
  · simp [h]
  · have : x.testBit i = false := Nat.testBit_lt_two_pow (Nat.lt_of_lt_of_le hx (by
      have : (18446744073709551616 : Nat) = 2 ^ 64 := by decide
      rw [this]; exact Nat.pow_le_pow_right (by decide) (by omega)))
    simp [h, this]

theorem compl_int (x : Int) (hx : 0 ≤ x) (hx' : x < 18446744073709551616) : bits BinOp.xor IntKind.u64 IntKind.u64.max x = 18446744073709551615 - x := by
  have em : IntKind.u64.max = ((18446744073709551615 : Nat) : Int) := by decide
  obtain ⟨x, rfl⟩ := Int.eq_ofNat_of_zero_le hx
  rw [em, u64_xor_nat _ x (by decide) (by omega), compl_nat x (by omega)]
  omega

theorem bd_u64 {x : Int} (h : (Lit.int .u64 x).wf = true) : 0 ≤ x ∧ x < 18446744073709551616 := by
  simp [Lit.wf, IntKind.min, IntKind.max, IntKind.signed, IntKind.bits] at h
  omega
end Go.Proofs.Qxb6619223a

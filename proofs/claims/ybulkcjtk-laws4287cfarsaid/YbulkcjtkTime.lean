/-
  time.Time without a monotonic reading: (wall, ext) = (nanoseconds, seconds). Plain facts on its bits and on Go's division.
-/
import Derived.Test.YbulkcjtkProg
import Derived.WalkKit
import Derived.Lib.EndianBits
namespace Go.Proofs.Ybulkcjtk
open Go.RowKit

/-- A time.Time: no monotonic reading, location nil. -/
def tv (ns sec : Int) : Value := .agg #[.int .u64 ns, .int .i64 sec, .pointer none]

theorem mask_ns (ns : Int) (h0 : 0 ≤ ns) (h1 : ns < 1000000000) : bits .and .u64 ns 1073741823 = ns := by
  have e0 : (2 : Int) ^ 64 = 18446744073709551616 := by decide
  have h := bits_mask .u64 64 (by decide) wraps_u64 30 (by decide) ns h0 (by omega)
  have e1 : (2 : Int) ^ 30 - 1 = 1073741823 := by decide
  have e2 : (2 : Int) ^ 30 = 1073741824 := by decide
  rw [e1, e2] at h
  rw [h]
  omega

theorem and_top_nat (n : Nat) (h : n < 2 ^ 63) : n &&& 9223372036854775808 = 0 := by
  refine Nat.eq_of_testBit_eq fun i => ?_
  have e : (9223372036854775808 : Nat) = 2 ^ 63 := by decide
  rw [e, Nat.testBit_and, Nat.testBit_two_pow, Nat.zero_testBit]
  by_cases hi : 63 = i
  · subst hi; rw [Nat.testBit_lt_two_pow h]; rfl
  · simp [hi]

theorem top_ns (ns : Int) (h0 : 0 ≤ ns) (h1 : ns < 1000000000) : bits .and .u64 ns 9223372036854775808 = 0 := by
  obtain ⟨n, rfl⟩ := Int.eq_ofNat_of_zero_le h0
  have h := (bits_nat .u64 64 (by decide) wraps_u64 n 9223372036854775808 (by omega) (by decide)).1
  rw [and_top_nat n (by omega)] at h
  simpa using h

theorem clear_ns (ns : Int) (h0 : 0 ≤ ns) (h1 : ns < 1000000000) : bits .andNot .u64 ns 1073741823 = 0 := by
  obtain ⟨n, rfl⟩ := Int.eq_ofNat_of_zero_le h0
  have e : (BitVec.ofInt 64 (n : Int) &&& ~~~ BitVec.ofInt 64 (1073741823 : Int)) = 0#64 := by
    refine BitVec.eq_of_getLsbD_eq fun i hi => ?_
    have e2 : BitVec.ofInt 64 (1073741823 : Int) = BitVec.ofNat 64 (2 ^ 30 - 1) := by decide
    rw [BitVec.ofInt_natCast, e2, BitVec.getLsbD_and, BitVec.getLsbD_not, BitVec.getLsbD_ofNat, BitVec.getLsbD_ofNat, Nat.testBit_two_pow_sub_one, BitVec.getLsbD_zero]
    by_cases h : i < 30
    · simp [h]
    · have : n.testBit i = false := Nat.testBit_lt_two_pow (Nat.lt_of_lt_of_le (show n < 2 ^ 30 by omega) (Nat.pow_le_pow_right (by decide) (by omega)))
      simp [this]
  show IntKind.u64.wrap ((BitVec.ofInt 64 (n : Int) &&& ~~~ BitVec.ofInt 64 (1073741823 : Int)).toNat : Int) = 0
  rw [e]
  rfl

/-- Go's division by 1e9: towards nought. -/
theorem billion (d : Int) (h0 : -9223372036854775808 ≤ d) (h1 : d ≤ 9223372036854775807) :
    ∃ D r : Int, d.tdiv 1000000000 = D ∧ d.tmod 1000000000 = r ∧ d = D * 1000000000 + r ∧ -1000000000 < r ∧ r < 1000000000 ∧ -9223372037 ≤ D ∧ D ≤ 9223372037 := by
  by_cases h : 0 ≤ d
  · refine ⟨d / 1000000000, d % 1000000000, Int.tdiv_eq_ediv_of_nonneg h, Int.tmod_eq_emod_of_nonneg h, ?_⟩
    omega
  · obtain ⟨m, rfl⟩ : ∃ m, d = -m := ⟨-d, by omega⟩
    refine ⟨-(m / 1000000000), -(m % 1000000000), ?_, ?_, ?_⟩
    · rw [Int.neg_tdiv, Int.tdiv_eq_ediv_of_nonneg (by omega)]
    · rw [Int.neg_tmod, Int.tmod_eq_emod_of_nonneg (by omega)]
    · omega

end Go.Proofs.Ybulkcjtk

/-
  Plain arithmetic: the normalising shift of math/bits.Div64, and the words that it makes.
-/
import Derived.Test.YbulkcjtkDiv
import Derived.Lib.ItoaNum
import Derived.Lib.EndianBits
namespace Go.Proofs.Ybulkcjtk

theorem two_pow_int (n : Nat) : ((2 ^ n : Nat) : Int) = (2 : Int) ^ n := by rw [Int.natCast_pow]; rfl
theorem pow_pos_int (n : Nat) : (0 : Int) < 2 ^ n := by rw [← two_pow_int]; exact_mod_cast Nat.two_pow_pos n
theorem pow_split {s : Nat} (h : s ≤ 64) : (2 : Int) ^ s * 2 ^ (64 - s) = 18446744073709551616 := by
  rw [← Int.pow_add, show s + (64 - s) = 64 by omega]; decide

/-- The leading zeros of a word that is not 0. -/
theorem norm_shift (y : Int) (h0 : 1 ≤ y) (h1 : y < 18446744073709551616) :
    ∃ s : Nat, s ≤ 63 ∧ 64 - (Lib.bitLen y.toNat : Int) = (s : Int) ∧ 9223372036854775808 ≤ y * 2 ^ s ∧ y * 2 ^ s < 18446744073709551616 := by
  obtain ⟨n, rfl⟩ := Int.eq_ofNat_of_zero_le (show 0 ≤ y by omega)
  have hb := Lib.bitLenAux_bounds 64 n (by omega) (by omega)
  have hle := Lib.bitLen_le n 64 (Nat.le_refl _) (by omega)
  have hd : Lib.bitLen n = Lib.bitLenAux 64 n := rfl
  rw [← hd] at hb
  rw [Int.toNat_natCast]
  generalize Lib.bitLen n = k at hb hle
  obtain ⟨k1, k2, k3⟩ := hb
  refine ⟨64 - k, by omega, by omega, ?_, ?_⟩
  · have e : 2 ^ (k - 1) * 2 ^ (64 - k) = 9223372036854775808 := by
      rw [← Nat.pow_add, show k - 1 + (64 - k) = 63 by omega]
    have h := Nat.mul_le_mul_right (2 ^ (64 - k)) k2
    rw [e] at h
    rw [← two_pow_int, ← Int.natCast_mul]
    omega
  · have e : 2 ^ k * 2 ^ (64 - k) = 18446744073709551616 := by
      rw [← Nat.pow_add, show k + (64 - k) = 64 by omega]
    have h := Nat.mul_lt_mul_of_pos_right k3 (Nat.two_pow_pos (64 - k))
    rw [e] at h
    rw [← two_pow_int, ← Int.natCast_mul]
    omega

/-- The words behind the shift. P = 2^s, R = 2^(64-s). -/
theorem norm_words {hi lo y : Int} {s : Nat} (hs : s ≤ 63) (h0 : 0 ≤ hi) (h1 : hi < y) (h3 : 0 ≤ lo) (h4 : lo < 18446744073709551616) (hY : y * 2 ^ s < 18446744073709551616) :
    0 ≤ lo / 2 ^ (64 - s) ∧ lo / 2 ^ (64 - s) < 2 ^ s ∧ hi * 2 ^ s < 18446744073709551616 ∧ hi * 2 ^ s + lo / 2 ^ (64 - s) < y * 2 ^ s ∧ 0 ≤ hi * 2 ^ s + lo / 2 ^ (64 - s) ∧
    (hi * 18446744073709551616 + lo) * 2 ^ s = (hi * 2 ^ s + lo / 2 ^ (64 - s)) * 18446744073709551616 + lo * 2 ^ s % 18446744073709551616 := by
  have hP := pow_pos_int s
  have hR := pow_pos_int (64 - s)
  have hPR := pow_split (show s ≤ 64 by omega)
  generalize (2 : Int) ^ s = P at *
  generalize (2 : Int) ^ (64 - s) = R at *
  have a1 : 0 ≤ lo / R := Int.ediv_nonneg h3 (by omega)
  have a2 : lo / R < P := Int.ediv_lt_of_lt_mul hR (by omega)
  have a3 : hi * P + P ≤ y * P := by
    have := Int.mul_le_mul_of_nonneg_right (show hi + 1 ≤ y by omega) (show 0 ≤ P by omega)
    rw [Int.add_mul] at this
    omega
  have a4 : 0 ≤ hi * P := Int.mul_nonneg h0 (by omega)
  refine ⟨a1, a2, by omega, by omega, by omega, ?_⟩
  have e1 : lo * P / 18446744073709551616 = lo / R := by
    rw [← hPR, Int.mul_comm lo P, Int.mul_ediv_mul_of_pos _ _ hP]
  have e2 := Int.mul_ediv_add_emod (lo * P) 18446744073709551616
  rw [e1] at e2
  rw [Int.add_mul, Int.add_mul]
  have e3 : hi * 18446744073709551616 * P = hi * P * 18446744073709551616 := Int.mul_right_comm _ _ _
  omega

theorem or_words {hi lo : Int} {s : Nat} (hs : s ≤ 63) (h0 : 0 ≤ hi * 2 ^ s) (h1 : hi * 2 ^ s < 18446744073709551616) (h3 : 0 ≤ lo / 2 ^ (64 - s)) (h4 : lo / 2 ^ (64 - s) < 2 ^ s) :
    bits .or .u64 (hi * 2 ^ s) (lo / 2 ^ (64 - s)) = hi * 2 ^ s + lo / 2 ^ (64 - s) := by
  refine bits_join .u64 64 (by decide) wraps_u64 s _ _ h0 ?_ h1 h3 h4 ?_
  · exact Int.mul_emod_left _ _
  · have : (2 : Int) ^ s ≤ 2 ^ 63 := by
      rw [← two_pow_int, ← two_pow_int]
      exact_mod_cast Nat.pow_le_pow_right (by decide) hs
    have e : (2 : Int) ^ 63 = 9223372036854775808 := by decide
    have e' : (2 : Int) ^ 64 = 18446744073709551616 := by decide
    omega

theorem and_low (x : Int) (h0 : 0 ≤ x) (h1 : x < 18446744073709551616) : bits .and .u64 x 4294967295 = x % 4294967296 := bits_mask .u64 64 (by decide) wraps_u64 32 (by decide) x h0 h1

end Go.Proofs.Ybulkcjtk

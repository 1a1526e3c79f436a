/-
  Plain arithmetic: one digit of the long division by two half words, as math/bits.Div64 takes it. No Go in sight.
-/
import Derived.RowKit
namespace Go.Proofs.Ybulkcjtk

/-- The state of the search for one digit q: r is what is left of U behind q * y1; q is not below the true digit. -/
def Dig (U Y y1 y0 un q r : Int) : Prop :=
  0 ≤ U ∧ U < Y ∧ Y = y1 * 4294967296 + y0 ∧ 2147483648 ≤ y1 ∧ y1 < 4294967296 ∧ 0 ≤ y0 ∧ y0 < 4294967296 ∧ 0 ≤ un ∧ un < 4294967296 ∧
  q * y1 + r = U ∧ 0 ≤ r ∧ 0 ≤ q ∧ q ≤ 4294967297 ∧ U * 4294967296 + un < (q + 1) * Y

theorem dig_start {U Y y1 y0 un : Int} (h1 : 0 ≤ U) (h2 : U < Y) (h3 : Y = y1 * 4294967296 + y0) (h4 : 2147483648 ≤ y1) (h5 : y1 < 4294967296) (h6 : 0 ≤ y0) (h7 : y0 < 4294967296) (h8 : 0 ≤ un) (h9 : un < 4294967296) :
    Dig U Y y1 y0 un (U / y1) (U - U / y1 * y1) ∧ U - U / y1 * y1 < y1 := by
  have e := Int.ediv_mul_le U (show y1 ≠ 0 by omega)
  have e2 := Int.lt_ediv_add_one_mul_self U (show 0 < y1 by omega)
  have hq : 0 ≤ U / y1 := Int.ediv_nonneg h1 (by omega)
  generalize hQ : U / y1 = q at *
  have e3 : (q + 1) * y1 = q * y1 + y1 := by rw [Int.add_mul]; omega
  have hq1 : q ≤ 4294967297 := by
    by_cases hc : q ≤ 4294967297
    · exact hc
    · exfalso
      have : 4294967298 * y1 ≤ q * y1 := Int.mul_le_mul_of_nonneg_right (by omega) (by omega)
      omega
  refine ⟨⟨h1, h2, h3, h4, h5, h6, h7, h8, h9, by omega, by omega, hq, hq1, ?_⟩, by omega⟩
  have e4 : (q + 1) * Y = (q + 1) * y1 * 4294967296 + (q + 1) * y0 := by rw [h3, Int.mul_add, Int.mul_assoc]
  have e5 : 0 ≤ (q + 1) * y0 := Int.mul_nonneg (by omega) h6
  rw [e4]
  omega

theorem dig_mulY {Y y1 y0 q : Int} (h3 : Y = y1 * 4294967296 + y0) : q * Y = q * y1 * 4294967296 + q * y0 := by
  rw [h3, Int.mul_add, Int.mul_assoc]

theorem dig_step {U Y y1 y0 un q r : Int} (h : Dig U Y y1 y0 un q r) (ht : 4294967296 ≤ q ∨ 4294967296 * r + un < q * y0) :
    1 ≤ q ∧ Dig U Y y1 y0 un (q - 1) (r + y1) := by
  obtain ⟨h1, h2, h3, h4, h5, h6, h7, h8, h9, h10, h11, h12, h13, h14⟩ := h
  have hY := dig_mulY (q := q) h3
  have hD : U * 4294967296 + un < q * Y := by
    rcases ht with ht | ht
    · have : 4294967296 * Y ≤ q * Y := Int.mul_le_mul_of_nonneg_right ht (by omega)
      omega
    · omega
  have hq : 1 ≤ q := by
    by_cases hc : 1 ≤ q
    · exact hc
    · exfalso
      have : q = 0 := by omega
      subst this
      simp at hD
      omega
  refine ⟨hq, h1, h2, h3, h4, h5, h6, h7, h8, h9, ?_, by omega, by omega, by omega, ?_⟩
  · have : (q - 1) * y1 = q * y1 - y1 := by rw [Int.sub_mul]; omega
    omega
  · rw [show q - 1 + 1 = q by omega]; exact hD

/-- Where the test says no, the digit is the true one. -/
theorem dig_no {U Y y1 y0 un q r : Int} (h : Dig U Y y1 y0 un q r) (ht : q * y0 ≤ 4294967296 * r + un) : q * Y ≤ U * 4294967296 + un := by
  obtain ⟨h1, h2, h3, h4, h5, h6, h7, h8, h9, h10, h11, h12, h13, h14⟩ := h
  have hY := dig_mulY (q := q) h3
  omega

/-- Where the rest has outgrown a half word, the digit is the true one. -/
theorem dig_out {U Y y1 y0 un q r : Int} (h : Dig U Y y1 y0 un q r) (hq : q ≤ 4294967296) (hr : 4294967296 ≤ r) : q * Y ≤ U * 4294967296 + un := by
  refine dig_no h ?_
  obtain ⟨h1, h2, h3, h4, h5, h6, h7, h8, h9, h10, h11, h12, h13, h14⟩ := h
  have : q * y0 ≤ 4294967296 * y0 := Int.mul_le_mul_of_nonneg_right hq h6
  omega

theorem dig_lt {U Y y1 y0 un q r : Int} (h : Dig U Y y1 y0 un q r) (ht : q * Y ≤ U * 4294967296 + un) : q < 4294967296 := by
  obtain ⟨h1, h2, h3, h4, h5, h6, h7, h8, h9, h10, h11, h12, h13, h14⟩ := h
  by_cases hc : q < 4294967296
  · exact hc
  · exfalso
    have : 4294967296 * Y ≤ q * Y := Int.mul_le_mul_of_nonneg_right (by omega) (by omega)
    omega

/-- What is left behind a true digit. -/
theorem dig_rest {U Y y1 y0 un q r : Int} (h : Dig U Y y1 y0 un q r) (ht : q * Y ≤ U * 4294967296 + un) : 0 ≤ U * 4294967296 + un - q * Y ∧ U * 4294967296 + un - q * Y < Y := by
  obtain ⟨h1, h2, h3, h4, h5, h6, h7, h8, h9, h10, h11, h12, h13, h14⟩ := h
  have : (q + 1) * Y = q * Y + Y := by rw [Int.add_mul]; omega
  omega

/-- The whole division: N = hi * 2^64 + lo, shifted by s. -/
theorem div_join {N y P Y U L un1 un0 q1 q0 : Int} (hP : 0 < P) (hy : 0 < y) (hY : Y = y * P) (hN : N * P = U * 18446744073709551616 + L) (hL : L = un1 * 4294967296 + un0)
    (hr0 : 0 ≤ (U * 4294967296 + un1 - q1 * Y) * 4294967296 + un0 - q0 * Y) (hr1 : (U * 4294967296 + un1 - q1 * Y) * 4294967296 + un0 - q0 * Y < Y) :
    q1 * 4294967296 + q0 = N / y ∧ ((U * 4294967296 + un1 - q1 * Y) * 4294967296 + un0 - q0 * Y) / P = N % y := by
  have e1 : q1 * Y * 4294967296 + q0 * Y = (q1 * 4294967296 + q0) * y * P := by
    rw [hY, ← Int.mul_assoc, ← Int.mul_assoc, Int.add_mul, Int.add_mul]
    have : q1 * y * P * 4294967296 = q1 * 4294967296 * y * P := by
      rw [Int.mul_right_comm (q1 * y) P, Int.mul_right_comm q1 y]
    omega
  have e2 : (U * 4294967296 + un1 - q1 * Y) * 4294967296 + un0 - q0 * Y = (N - (q1 * 4294967296 + q0) * y) * P := by
    have e3 : (N - (q1 * 4294967296 + q0) * y) * P = N * P - (q1 * 4294967296 + q0) * y * P := Int.sub_mul _ _ _
    rw [e3, ← e1, hN, hL]
    omega
  rw [e2] at hr0 hr1 ⊢
  generalize q1 * 4294967296 + q0 = q at *
  have h1 : 0 ≤ N - q * y := by
    by_cases hc : 0 ≤ N - q * y
    · exact hc
    · exfalso
      have := Int.mul_le_mul_of_nonneg_right (show N - q * y ≤ -1 by omega) (show 0 ≤ P by omega)
      omega
  have h2 : N - q * y < y := by
    by_cases hc : N - q * y < y
    · exact hc
    · exfalso
      have := Int.mul_le_mul_of_nonneg_right (show y ≤ N - q * y by omega) (show 0 ≤ P by omega)
      omega
  have hq : q = N / y := by
    symm
    rw [show N = (N - q * y) + q * y by omega, Int.add_mul_ediv_right _ _ (by omega), Int.ediv_eq_zero_of_lt h1 h2]
    omega
  refine ⟨hq, ?_⟩
  rw [Int.mul_ediv_cancel _ (by omega), Int.emod_def, ← hq, Int.mul_comm y q]

end Go.Proofs.Ybulkcjtk

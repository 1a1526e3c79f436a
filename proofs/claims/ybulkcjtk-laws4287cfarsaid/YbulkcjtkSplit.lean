/-
  (*Grid).split: a division by a multiplication.
-/
import Derived.Test.YbulkcjtkNew
import Derived.Deep.QuietTactic
import Derived.BigQuiet
namespace Go.Proofs.Ybulkcjtk
open Go.RowKit

/-- The quotient by the reciprocal is the true one, for every dividend below 2^63. -/
theorem rcp_div {T recip s : Int} {l : Nat} (h : Rcp T recip l) (T0 : 1 ≤ T) (s0 : 0 ≤ s) (s1 : s < 9223372036854775808) : s * recip / (2 ^ l * 9223372036854775808) = s / T := by
  obtain ⟨_, r0, _, r1, r2, r3⟩ := h
  have hP : (0 : Int) < 2 ^ l := pow_pos_int l
  generalize (2 : Int) ^ l = A at *
  obtain ⟨P, hPA⟩ : ∃ P, A * 9223372036854775808 = P := ⟨_, rfl⟩
  rw [hPA] at r1 r2 ⊢
  obtain ⟨e, he⟩ : ∃ e, recip * T = P + e := ⟨recip * T - P, by omega⟩
  have hd := Int.mul_ediv_add_emod s T
  have hm0 := Int.emod_nonneg s (show T ≠ 0 by omega)
  have hm1 := Int.emod_lt_of_pos s (show 0 < T by omega)
  generalize s / T = k at *
  generalize s % T = ρ at *
  have e1 : s * recip * T = s * P + s * e := by rw [Int.mul_assoc, he, Int.mul_add]
  have e2 : s * P = T * k * P + ρ * P := by rw [← hd, Int.add_mul]
  have e3 : s * e < P := by
    have h1 : s * e ≤ s * (A - 1) := Int.mul_le_mul_of_nonneg_left (by omega) s0
    have h2 : s * (A - 1) ≤ 9223372036854775808 * (A - 1) := Int.mul_le_mul_of_nonneg_right (by omega) (by omega)
    omega
  have e4 : 0 ≤ s * e := Int.mul_nonneg s0 (by omega)
  have e5 : 0 ≤ ρ * P := Int.mul_nonneg hm0 (by omega)
  have e6 : ρ * P ≤ (T - 1) * P := Int.mul_le_mul_of_nonneg_right (by omega) (by omega)
  have e7 : (T - 1) * P = T * P - P := by rw [Int.sub_mul]; omega
  have e8 : T * k * P = k * P * T := by rw [Int.mul_comm T k, Int.mul_right_comm]
  have e9 : T * P = P * T := Int.mul_comm _ _
  have lo : k * P ≤ s * recip := by
    by_cases hc : k * P ≤ s * recip
    · exact hc
    · exfalso
      have := Int.mul_le_mul_of_nonneg_right (show s * recip + 1 ≤ k * P by omega) (show 0 ≤ T by omega)
      rw [Int.add_mul] at this
      omega
  have up : s * recip < k * P + P := by
    by_cases hc : s * recip < k * P + P
    · exact hc
    · exfalso
      have := Int.mul_le_mul_of_nonneg_right (show k * P + P ≤ s * recip by omega) (show 0 ≤ T by omega)
      rw [Int.add_mul] at this
      omega
  rw [show s * recip = (s * recip - k * P) + k * P by omega, Int.add_mul_ediv_right _ _ (show P ≠ 0 by omega), Int.ediv_eq_zero_of_lt (by omega) (by omega)]
  omega

/-- The two words of the product, shifted into one and down. -/
theorem two_words {X : Int} {l : Nat} (h0 : 0 ≤ X) (h1 : X < 170141183460469231731687303715884105728) :
    bits BinOp.or IntKind.u64 (X / 18446744073709551616 * 2) (X % 18446744073709551616 / 9223372036854775808) / 2 ^ l = X / (2 ^ l * 9223372036854775808) := by
  have e0 : (2 : Int) ^ 64 = 18446744073709551616 := by decide
  have e1 : (2 : Int) ^ 1 = 2 := by decide
  rw [bits_join .u64 64 (by decide) wraps_u64 1 (X / 18446744073709551616 * 2) (X % 18446744073709551616 / 9223372036854775808) (by omega) (by omega) (by omega) (by omega) (by omega) (by omega)]
  rw [show X / 18446744073709551616 * 2 + X % 18446744073709551616 / 9223372036854775808 = X / 9223372036854775808 by omega]
  rw [Int.ediv_ediv_of_nonneg (by decide), Int.mul_comm]

theorem mul_any (x y : Int) (w : World) (x0 : 0 ≤ x) (x1 : x < 18446744073709551616) (y0 : 0 ≤ y) (y1 : y < 18446744073709551616) :
    Calls Yba.prog 20 #[.int .u64 x, .int .u64 y] w fun e w' => e = .returned (.tuple #[.int .u64 (x * y / 18446744073709551616), .int .u64 (x * y % 18446744073709551616)]) ∧ w' = w := by
  obtain ⟨m, rfl⟩ := Int.eq_ofNat_of_zero_le x0
  obtain ⟨n, rfl⟩ := Int.eq_ofNat_of_zero_le y0
  have h := Yba.bits_Mul64 m n (by omega) (by omega) w
  rw [Int.natCast_ediv, Int.natCast_emod, Int.natCast_mul] at h
  exact h

set_option maxHeartbeats 400000 in
theorem split_any (g : Nat) (S T recip : Int) (l : Nat) (w : World) (hr : Rcp T recip l) (T0 : 1 ≤ T) (T1 : T ≤ 9223372036854775807) (S0 : 0 ≤ S) (S1 : S ≤ 9223372036854775807)
    (c3 : w.cell? ⟨g, 3, none⟩ = some (.int .i64 T)) (c4 : w.cell? ⟨g, 4, none⟩ = some (.int .u64 recip)) (c5 : w.cell? ⟨g, 5, none⟩ = some (.int .u64 l)) :
    Calls Yba.prog 18 #[.pointer (some ⟨g, 0, none⟩), .int .i64 S] w fun e w' => e = .returned (.tuple #[.int .u64 (S / T), .int .i64 (S - S / T * T)]) ∧ ∃ n, w' = w.drewN n := by
  have hd := rcp_div hr T0 S0 (by omega)
  obtain ⟨l63, r0, r1, _, _, _⟩ := hr
  have k0 : 0 ≤ S / T := Int.ediv_nonneg S0 (by omega)
  have k1 : S / T ≤ S := Int.ediv_le_self _ S0
  have k2 : S / T * T ≤ S := Int.ediv_mul_le S (by omega)
  have k3 : 0 ≤ S / T * T := Int.mul_nonneg k0 (by omega)
  have x0 : 0 ≤ S * recip := Int.mul_nonneg S0 r0
  have x1 : S * recip < 170141183460469231731687303715884105728 := by
    have a1 := Int.mul_le_mul_of_nonneg_right (show S ≤ 9223372036854775807 from S1) r0
    omega
  have rk := two_words (l := l) x0 x1
  rw [hd] at rk
  obtain ⟨K, hK⟩ : ∃ K, S / T = K := ⟨_, rfl⟩
  rw [hK] at k0 k1 k2 k3 rk ⊢
  clear hd hK
  go_enter Yba.func18, Yba.ntmps18
  go_wp2_with fail
  refine (mul_any S recip _ S0 (by omega) r0 r1).mono ?_
  rintro e w1 ⟨rfl, hw⟩
  obtain rfl := hw.symm
  clear hw
  go_wp2_with fail
  go_quiet (fail)
  go_wp2
  go_ret2
  exact ⟨ret_pair rfl rfl, _, rfl⟩

end Go.Proofs.Ybulkcjtk

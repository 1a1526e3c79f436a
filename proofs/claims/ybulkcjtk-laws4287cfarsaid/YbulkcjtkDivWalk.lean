/-
  math/bits.Div64: the walk.
-/
import Derived.Test.YbulkcjtkShelf
import Derived.Test.YbulkcjtkNorm
import Derived.WalkKit
import Derived.Deep.QuietTactic
import Derived.BigQuiet
namespace Go.Proofs.Ybulkcjtk
open Go.RowKit

theorem ret_pair {k l : IntKind} {a b c d : Int} (h1 : a = c) (h2 : b = d) : Ending.returned (.tuple #[.int k a, .int l b]) = .returned (.tuple #[.int k c, .int l d]) := by rw [h1, h2]

set_option maxHeartbeats 1000000 in
theorem div_main (hi lo y : Int) (w : World) (h0 : 1 ≤ hi) (h1 : hi < y) (h2 : y < 18446744073709551616) (h3 : 0 ≤ lo) (h4 : lo < 18446744073709551616) :
    Calls Yba.prog 11 #[.int .u64 hi, .int .u64 lo, .int .u64 y] w fun e w' => e = .returned (.tuple #[.int .u64 ((hi * 18446744073709551616 + lo) / y), .int .u64 ((hi * 18446744073709551616 + lo) % y)]) ∧ w' = w := by
  go_enter Yba.func11, Yba.ntmps11
  go_wp2_with fail
  refine (Yba.bits_LeadingZeros64 y _ (by omega) (by omega)).mono ?_
  rintro e w' ⟨rfl, hw⟩
  obtain rfl := hw.symm
  obtain ⟨s, hs63, hs, hY1, hY2⟩ := norm_shift y (by omega) h2
  obtain ⟨d1, d2, d3, d4, d5, d6⟩ := norm_words hs63 (show 0 ≤ hi by omega) h1 h3 h4 hY2
  have d7 : 0 ≤ hi * 2 ^ s := Int.mul_nonneg (by omega) (Int.le_of_lt (pow_pos_int s))
  have e0 := or_words hs63 d7 d3 d1 d2
  rw [hs]
  obtain ⟨Y, hY⟩ : ∃ Y, y * 2 ^ s = Y := ⟨_, rfl⟩
  obtain ⟨U, hU⟩ : ∃ U, hi * 2 ^ s + lo / 2 ^ (64 - s) = U := ⟨_, rfl⟩
  obtain ⟨L, hL⟩ : ∃ L, lo * 2 ^ s % 18446744073709551616 = L := ⟨_, rfl⟩
  have r1 : IntKind.u64.wrap (y * 2 ^ s) = Y := by rw [IntKind.wrap_u64, ← hY]; omega
  have r2 : bits BinOp.or IntKind.u64 (IntKind.u64.wrap (hi * 2 ^ s)) (lo / 2 ^ (64 - s)) = U := by
    rw [← hU, ← e0, IntKind.wrap_u64, Int.emod_eq_of_lt d7 d3]
  have r3 : IntKind.u64.wrap (lo * 2 ^ s) = L := by rw [IntKind.wrap_u64, hL]
  have hL0 : 0 ≤ L := by omega
  have hL1 : L < 18446744073709551616 := by omega
  rw [hY] at hY1 hY2 d4
  rw [hU] at d4 d5 d6
  rw [hL] at d6
  have D6 : Hid _ := d6
  have HY : Hid _ := hY
  clear hs hY hU hL e0 d1 d2 d3 d6 d7
  obtain ⟨y1, hy1⟩ : ∃ y1, Y / 4294967296 = y1 := ⟨_, rfl⟩
  obtain ⟨y0, hy0⟩ : ∃ y0, Y % 4294967296 = y0 := ⟨_, rfl⟩
  obtain ⟨un1, hu1⟩ : ∃ un1, L / 4294967296 = un1 := ⟨_, rfl⟩
  obtain ⟨un0, hu0⟩ : ∃ un0, L % 4294967296 = un0 := ⟨_, rfl⟩
  have r4 : bits BinOp.and IntKind.u64 Y 4294967295 = y0 := by rw [and_low Y (by omega) hY2, hy0]
  have r5 : bits BinOp.and IntKind.u64 L 4294967295 = un0 := by rw [and_low L hL0 hL1, hu0]
  have hYs : Y = y1 * 4294967296 + y0 := by omega
  have hLs : L = un1 * 4294967296 + un0 := by omega
  have b1 : 2147483648 ≤ y1 := by omega
  have b2 : y1 < 4294967296 := by omega
  have b3 : 0 ≤ y0 := by omega
  have b4 : y0 < 4294967296 := by omega
  have b5 : 0 ≤ un1 := by omega
  have b6 : un1 < 4294967296 := by omega
  have b7 : 0 ≤ un0 := by omega
  have b8 : un0 < 4294967296 := by omega
  obtain ⟨st, sr⟩ := dig_start d5 d4 hYs b1 b2 b3 b4 b5 b6
  have HYs : Hid _ := hYs
  have HLs : Hid _ := hLs
  clear hy0 hu0 hYs hLs
  obtain ⟨Q, hQ⟩ : ∃ Q, U / y1 = Q := ⟨_, rfl⟩
  rw [hQ] at st sr
  obtain ⟨R, hR⟩ : ∃ R, U - Q * y1 = R := ⟨_, rfl⟩
  rw [hR] at st sr
  have r6 : IntKind.u64.wrap (U.tdiv y1) = Q := by
    rw [Int.tdiv_eq_ediv_of_nonneg d5, hQ, IntKind.wrap_u64]
    obtain ⟨_, _, _, _, _, _, _, _, _, _, _, k1, k2, _⟩ := st
    omega
  have r7 : IntKind.u64.wrap (U - IntKind.u64.wrap (Q * y1)) = R := by
    obtain ⟨_, _, _, _, _, _, _, _, _, k0, k3, k1, k2, _⟩ := st
    rw [IntKind.wrap_u64, IntKind.wrap_u64]
    have : 0 ≤ Q * y1 := Int.mul_nonneg k1 (by omega)
    omega
  have ST : Hid _ := st
  clear st hQ hR
  go_wp2_with fail
  go_loop [15, 16] (fun a b => ∃ Q R : Int, a = .int .u64 Q ∧ b = .int .u64 R ∧ Dig U Y y1 y0 un1 Q R ∧ R < 4294967296) (fun a _ => (intOf a).toNat)
  case atStart => exact ⟨Q, R, rfl, rfl, ST.out, by omega⟩
  case round =>
    obtain ⟨q, r, rfl, rfl, hd, hr⟩ := hrel
    have HD : Hid _ := hd
    have q0 : 0 ≤ q := hd.2.2.2.2.2.2.2.2.2.2.2.1
    have q1 : q ≤ 4294967297 := hd.2.2.2.2.2.2.2.2.2.2.2.2.1
    have q2 : 0 ≤ r := hd.2.2.2.2.2.2.2.2.2.2.1
    clear hd
    by_cases c1 : 4294967296 ≤ q
    · obtain ⟨g1, hd2⟩ := dig_step HD.out (.inl c1)
      have t1 : decide (4294967296 ≤ q) = true := by simp; omega
      by_cases c2 : 4294967296 ≤ r + y1
      · have T0 := dig_out hd2 (by omega) c2
        have DD : Hid _ := hd2
        have T1 : Hid _ := T0
        clear hd2 T0 HD
        obtain ⟨v0, v1⟩ := dig_rest DD.out T1.out
        have ql := dig_lt DD.out T1.out
        obtain ⟨V, hV⟩ : ∃ V, U * 4294967296 + un1 - (q - 1) * Y = V := ⟨_, rfl⟩
        rw [hV] at v0 v1
        have r8 : IntKind.u64.wrap (IntKind.u64.wrap (IntKind.u64.wrap (U * 4294967296) + un1) - IntKind.u64.wrap ((q - 1) * Y)) = V := by
          rw [IntKind.wrap_u64, IntKind.wrap_u64, IntKind.wrap_u64, IntKind.wrap_u64]; omega
        obtain ⟨st2, sr2⟩ := dig_start v0 v1 HYs.out b1 b2 b3 b4 b7 b8
        obtain ⟨Q2, hQ2⟩ : ∃ Q2, V / y1 = Q2 := ⟨_, rfl⟩
        rw [hQ2] at st2 sr2
        obtain ⟨R2, hR2⟩ : ∃ R2, V - Q2 * y1 = R2 := ⟨_, rfl⟩
        rw [hR2] at st2 sr2
        have r9 : IntKind.u64.wrap (V.tdiv y1) = Q2 := by
          rw [Int.tdiv_eq_ediv_of_nonneg v0, hQ2, IntKind.wrap_u64]
          obtain ⟨_, _, _, _, _, _, _, _, _, _, _, k1, k2, _⟩ := st2
          omega
        have r10 : IntKind.u64.wrap (V - IntKind.u64.wrap (Q2 * y1)) = R2 := by
          obtain ⟨_, _, _, _, _, _, _, _, _, k0, k3, k1, k2, _⟩ := st2
          rw [IntKind.wrap_u64, IntKind.wrap_u64]
          have : 0 ≤ Q2 * y1 := Int.mul_nonneg k1 (by omega)
          omega
        have ST2 : Hid _ := st2
        have HV : Hid _ := hV
        clear st2 hQ2 hR2 hV
        go_wp2_with fail
        go_loop [18, 16] (fun a b => ∃ Q R : Int, a = .int .u64 Q ∧ b = .int .u64 R ∧ Dig V Y y1 y0 un0 Q R ∧ R < 4294967296) (fun a _ => (intOf a).toNat)
        case atStart => exact ⟨Q2, R2, rfl, rfl, ST2.out, by omega⟩
        case round =>
          obtain ⟨p, u, rfl, rfl, hd, hr⟩ := hrel
          have HD : Hid _ := hd
          have q0 : 0 ≤ p := hd.2.2.2.2.2.2.2.2.2.2.2.1
          have q1 : p ≤ 4294967297 := hd.2.2.2.2.2.2.2.2.2.2.2.2.1
          have q2 : 0 ≤ u := hd.2.2.2.2.2.2.2.2.2.2.1
          clear hd
          by_cases c1 : 4294967296 ≤ p
          · obtain ⟨g1, hd2⟩ := dig_step HD.out (.inl c1)
            have t1 : decide (4294967296 ≤ p) = true := by simp; omega
            by_cases c2 : 4294967296 ≤ u + y1
            · have T0 := dig_out hd2 (by omega) c2
              have DD : Hid _ := hd2
              have T2 : Hid _ := T0
              clear hd2 T0 HD
              obtain ⟨z0, z1⟩ := dig_rest DD.out T2.out
              have pl := dig_lt DD.out T2.out
              obtain ⟨Z, hZ⟩ : ∃ Z, V * 4294967296 + un0 - (p - 1) * Y = Z := ⟨_, rfl⟩
              have FI := div_join (N := hi * 18446744073709551616 + lo) (q1 := (q - 1)) (q0 := p - 1) (pow_pos_int s) (show 0 < y by omega) HY.out.symm D6.out HLs.out (by rw [HV.out]; exact z0) (by rw [HV.out]; exact z1)
              rw [HV.out, hZ] at FI
              rw [hZ] at z0 z1
              have r11 : IntKind.u64.wrap (IntKind.u64.wrap (IntKind.u64.wrap (V * 4294967296) + un0) - IntKind.u64.wrap ((p - 1) * Y)) = Z := by
                rw [IntKind.wrap_u64, IntKind.wrap_u64, IntKind.wrap_u64, IntKind.wrap_u64]; omega
              have HF : Hid _ := FI
              clear FI hZ
              go_wp2
              go_ret2
              exact ⟨ret_pair HF.out.1 HF.out.2, rfl⟩
            · have DD : Hid _ := hd2
              clear hd2 HD
              go_wp2
              go_round
              case rel => exact ⟨p - 1, u + y1, rfl, rfl, DD.out, by omega⟩
              case measure => simp [intOf]; omega
          · have m0 : 0 ≤ p * y0 := Int.mul_nonneg q0 b3
            have m1 : p * y0 ≤ 18446744065119617025 := by
              have := Int.mul_le_mul (show p ≤ 4294967295 by omega) (show y0 ≤ 4294967295 by omega) b3 (by decide)
              omega
            have t1 : decide (4294967296 ≤ p) = false := by simp; omega
            by_cases c3 : 4294967296 * u + un0 < p * y0
            · obtain ⟨g1, hd2⟩ := dig_step HD.out (.inr c3)
              have t2 : decide (4294967296 * u + un0 < p * y0) = true := by simp; omega
              by_cases c2 : 4294967296 ≤ u + y1
              · have T0 := dig_out hd2 (by omega) c2
                have DD : Hid _ := hd2
                have T2 : Hid _ := T0
                clear hd2 T0 HD
                obtain ⟨z0, z1⟩ := dig_rest DD.out T2.out
                have pl := dig_lt DD.out T2.out
                obtain ⟨Z, hZ⟩ : ∃ Z, V * 4294967296 + un0 - (p - 1) * Y = Z := ⟨_, rfl⟩
                have FI := div_join (N := hi * 18446744073709551616 + lo) (q1 := (q - 1)) (q0 := p - 1) (pow_pos_int s) (show 0 < y by omega) HY.out.symm D6.out HLs.out (by rw [HV.out]; exact z0) (by rw [HV.out]; exact z1)
                rw [HV.out, hZ] at FI
                rw [hZ] at z0 z1
                have r11 : IntKind.u64.wrap (IntKind.u64.wrap (IntKind.u64.wrap (V * 4294967296) + un0) - IntKind.u64.wrap ((p - 1) * Y)) = Z := by
                  rw [IntKind.wrap_u64, IntKind.wrap_u64, IntKind.wrap_u64, IntKind.wrap_u64]; omega
                have HF : Hid _ := FI
                clear FI hZ
                go_wp2
                go_ret2
                exact ⟨ret_pair HF.out.1 HF.out.2, rfl⟩
              · have DD : Hid _ := hd2
                clear hd2 HD
                go_wp2
                go_round
                case rel => exact ⟨p - 1, u + y1, rfl, rfl, DD.out, by omega⟩
                case measure => simp [intOf]; omega
            · have T0 := dig_no HD.out (by omega)
              have t2 : decide (4294967296 * u + un0 < p * y0) = false := by simp; omega
              have T2 : Hid _ := T0
              clear T0
              obtain ⟨z0, z1⟩ := dig_rest HD.out T2.out
              have pl := dig_lt HD.out T2.out
              obtain ⟨Z, hZ⟩ : ∃ Z, V * 4294967296 + un0 - (p) * Y = Z := ⟨_, rfl⟩
              have FI := div_join (N := hi * 18446744073709551616 + lo) (q1 := (q - 1)) (q0 := p) (pow_pos_int s) (show 0 < y by omega) HY.out.symm D6.out HLs.out (by rw [HV.out]; exact z0) (by rw [HV.out]; exact z1)
              rw [HV.out, hZ] at FI
              rw [hZ] at z0 z1
              have r11 : IntKind.u64.wrap (IntKind.u64.wrap (IntKind.u64.wrap (V * 4294967296) + un0) - IntKind.u64.wrap ((p) * Y)) = Z := by
                rw [IntKind.wrap_u64, IntKind.wrap_u64, IntKind.wrap_u64, IntKind.wrap_u64]; omega
              have HF : Hid _ := FI
              clear FI hZ
              go_wp2
              go_ret2
              exact ⟨ret_pair HF.out.1 HF.out.2, rfl⟩
      · have DD : Hid _ := hd2
        clear hd2 HD
        go_wp2
        go_round
        case rel => exact ⟨q - 1, r + y1, rfl, rfl, DD.out, by omega⟩
        case measure => simp [intOf]; omega
    · have m0 : 0 ≤ q * y0 := Int.mul_nonneg q0 b3
      have m1 : q * y0 ≤ 18446744065119617025 := by
        have := Int.mul_le_mul (show q ≤ 4294967295 by omega) (show y0 ≤ 4294967295 by omega) b3 (by decide)
        omega
      have t1 : decide (4294967296 ≤ q) = false := by simp; omega
      by_cases c3 : 4294967296 * r + un1 < q * y0
      · obtain ⟨g1, hd2⟩ := dig_step HD.out (.inr c3)
        have t2 : decide (4294967296 * r + un1 < q * y0) = true := by simp; omega
        by_cases c2 : 4294967296 ≤ r + y1
        · have T0 := dig_out hd2 (by omega) c2
          have DD : Hid _ := hd2
          have T1 : Hid _ := T0
          clear hd2 T0 HD
          obtain ⟨v0, v1⟩ := dig_rest DD.out T1.out
          have ql := dig_lt DD.out T1.out
          obtain ⟨V, hV⟩ : ∃ V, U * 4294967296 + un1 - (q - 1) * Y = V := ⟨_, rfl⟩
          rw [hV] at v0 v1
          have r8 : IntKind.u64.wrap (IntKind.u64.wrap (IntKind.u64.wrap (U * 4294967296) + un1) - IntKind.u64.wrap ((q - 1) * Y)) = V := by
            rw [IntKind.wrap_u64, IntKind.wrap_u64, IntKind.wrap_u64, IntKind.wrap_u64]; omega
          obtain ⟨st2, sr2⟩ := dig_start v0 v1 HYs.out b1 b2 b3 b4 b7 b8
          obtain ⟨Q2, hQ2⟩ : ∃ Q2, V / y1 = Q2 := ⟨_, rfl⟩
          rw [hQ2] at st2 sr2
          obtain ⟨R2, hR2⟩ : ∃ R2, V - Q2 * y1 = R2 := ⟨_, rfl⟩
          rw [hR2] at st2 sr2
          have r9 : IntKind.u64.wrap (V.tdiv y1) = Q2 := by
            rw [Int.tdiv_eq_ediv_of_nonneg v0, hQ2, IntKind.wrap_u64]
            obtain ⟨_, _, _, _, _, _, _, _, _, _, _, k1, k2, _⟩ := st2
            omega
          have r10 : IntKind.u64.wrap (V - IntKind.u64.wrap (Q2 * y1)) = R2 := by
            obtain ⟨_, _, _, _, _, _, _, _, _, k0, k3, k1, k2, _⟩ := st2
            rw [IntKind.wrap_u64, IntKind.wrap_u64]
            have : 0 ≤ Q2 * y1 := Int.mul_nonneg k1 (by omega)
            omega
          have ST2 : Hid _ := st2
          have HV : Hid _ := hV
          clear st2 hQ2 hR2 hV
          go_wp2_with fail
          go_loop [18, 16] (fun a b => ∃ Q R : Int, a = .int .u64 Q ∧ b = .int .u64 R ∧ Dig V Y y1 y0 un0 Q R ∧ R < 4294967296) (fun a _ => (intOf a).toNat)
          case atStart => exact ⟨Q2, R2, rfl, rfl, ST2.out, by omega⟩
          case round =>
            obtain ⟨p, u, rfl, rfl, hd, hr⟩ := hrel
            have HD : Hid _ := hd
            have q0 : 0 ≤ p := hd.2.2.2.2.2.2.2.2.2.2.2.1
            have q1 : p ≤ 4294967297 := hd.2.2.2.2.2.2.2.2.2.2.2.2.1
            have q2 : 0 ≤ u := hd.2.2.2.2.2.2.2.2.2.2.1
            clear hd
            by_cases c1 : 4294967296 ≤ p
            · obtain ⟨g1, hd2⟩ := dig_step HD.out (.inl c1)
              have t1 : decide (4294967296 ≤ p) = true := by simp; omega
              by_cases c2 : 4294967296 ≤ u + y1
              · have T0 := dig_out hd2 (by omega) c2
                have DD : Hid _ := hd2
                have T2 : Hid _ := T0
                clear hd2 T0 HD
                obtain ⟨z0, z1⟩ := dig_rest DD.out T2.out
                have pl := dig_lt DD.out T2.out
                obtain ⟨Z, hZ⟩ : ∃ Z, V * 4294967296 + un0 - (p - 1) * Y = Z := ⟨_, rfl⟩
                have FI := div_join (N := hi * 18446744073709551616 + lo) (q1 := (q - 1)) (q0 := p - 1) (pow_pos_int s) (show 0 < y by omega) HY.out.symm D6.out HLs.out (by rw [HV.out]; exact z0) (by rw [HV.out]; exact z1)
                rw [HV.out, hZ] at FI
                rw [hZ] at z0 z1
                have r11 : IntKind.u64.wrap (IntKind.u64.wrap (IntKind.u64.wrap (V * 4294967296) + un0) - IntKind.u64.wrap ((p - 1) * Y)) = Z := by
                  rw [IntKind.wrap_u64, IntKind.wrap_u64, IntKind.wrap_u64, IntKind.wrap_u64]; omega
                have HF : Hid _ := FI
                clear FI hZ
                go_wp2
                go_ret2
                exact ⟨ret_pair HF.out.1 HF.out.2, rfl⟩
              · have DD : Hid _ := hd2
                clear hd2 HD
                go_wp2
                go_round
                case rel => exact ⟨p - 1, u + y1, rfl, rfl, DD.out, by omega⟩
                case measure => simp [intOf]; omega
            · have m0 : 0 ≤ p * y0 := Int.mul_nonneg q0 b3
              have m1 : p * y0 ≤ 18446744065119617025 := by
                have := Int.mul_le_mul (show p ≤ 4294967295 by omega) (show y0 ≤ 4294967295 by omega) b3 (by decide)
                omega
              have t1 : decide (4294967296 ≤ p) = false := by simp; omega
              by_cases c3 : 4294967296 * u + un0 < p * y0
              · obtain ⟨g1, hd2⟩ := dig_step HD.out (.inr c3)
                have t2 : decide (4294967296 * u + un0 < p * y0) = true := by simp; omega
                by_cases c2 : 4294967296 ≤ u + y1
                · have T0 := dig_out hd2 (by omega) c2
                  have DD : Hid _ := hd2
                  have T2 : Hid _ := T0
                  clear hd2 T0 HD
                  obtain ⟨z0, z1⟩ := dig_rest DD.out T2.out
                  have pl := dig_lt DD.out T2.out
                  obtain ⟨Z, hZ⟩ : ∃ Z, V * 4294967296 + un0 - (p - 1) * Y = Z := ⟨_, rfl⟩
                  have FI := div_join (N := hi * 18446744073709551616 + lo) (q1 := (q - 1)) (q0 := p - 1) (pow_pos_int s) (show 0 < y by omega) HY.out.symm D6.out HLs.out (by rw [HV.out]; exact z0) (by rw [HV.out]; exact z1)
                  rw [HV.out, hZ] at FI
                  rw [hZ] at z0 z1
                  have r11 : IntKind.u64.wrap (IntKind.u64.wrap (IntKind.u64.wrap (V * 4294967296) + un0) - IntKind.u64.wrap ((p - 1) * Y)) = Z := by
                    rw [IntKind.wrap_u64, IntKind.wrap_u64, IntKind.wrap_u64, IntKind.wrap_u64]; omega
                  have HF : Hid _ := FI
                  clear FI hZ
                  go_wp2
                  go_ret2
                  exact ⟨ret_pair HF.out.1 HF.out.2, rfl⟩
                · have DD : Hid _ := hd2
                  clear hd2 HD
                  go_wp2
                  go_round
                  case rel => exact ⟨p - 1, u + y1, rfl, rfl, DD.out, by omega⟩
                  case measure => simp [intOf]; omega
              · have T0 := dig_no HD.out (by omega)
                have t2 : decide (4294967296 * u + un0 < p * y0) = false := by simp; omega
                have T2 : Hid _ := T0
                clear T0
                obtain ⟨z0, z1⟩ := dig_rest HD.out T2.out
                have pl := dig_lt HD.out T2.out
                obtain ⟨Z, hZ⟩ : ∃ Z, V * 4294967296 + un0 - (p) * Y = Z := ⟨_, rfl⟩
                have FI := div_join (N := hi * 18446744073709551616 + lo) (q1 := (q - 1)) (q0 := p) (pow_pos_int s) (show 0 < y by omega) HY.out.symm D6.out HLs.out (by rw [HV.out]; exact z0) (by rw [HV.out]; exact z1)
                rw [HV.out, hZ] at FI
                rw [hZ] at z0 z1
                have r11 : IntKind.u64.wrap (IntKind.u64.wrap (IntKind.u64.wrap (V * 4294967296) + un0) - IntKind.u64.wrap ((p) * Y)) = Z := by
                  rw [IntKind.wrap_u64, IntKind.wrap_u64, IntKind.wrap_u64, IntKind.wrap_u64]; omega
                have HF : Hid _ := FI
                clear FI hZ
                go_wp2
                go_ret2
                exact ⟨ret_pair HF.out.1 HF.out.2, rfl⟩
        · have DD : Hid _ := hd2
          clear hd2 HD
          go_wp2
          go_round
          case rel => exact ⟨q - 1, r + y1, rfl, rfl, DD.out, by omega⟩
          case measure => simp [intOf]; omega
      · have T0 := dig_no HD.out (by omega)
        have t2 : decide (4294967296 * r + un1 < q * y0) = false := by simp; omega
        have T1 : Hid _ := T0
        clear T0
        obtain ⟨v0, v1⟩ := dig_rest HD.out T1.out
        have ql := dig_lt HD.out T1.out
        obtain ⟨V, hV⟩ : ∃ V, U * 4294967296 + un1 - (q) * Y = V := ⟨_, rfl⟩
        rw [hV] at v0 v1
        have r8 : IntKind.u64.wrap (IntKind.u64.wrap (IntKind.u64.wrap (U * 4294967296) + un1) - IntKind.u64.wrap ((q) * Y)) = V := by
          rw [IntKind.wrap_u64, IntKind.wrap_u64, IntKind.wrap_u64, IntKind.wrap_u64]; omega
        obtain ⟨st2, sr2⟩ := dig_start v0 v1 HYs.out b1 b2 b3 b4 b7 b8
        obtain ⟨Q2, hQ2⟩ : ∃ Q2, V / y1 = Q2 := ⟨_, rfl⟩
        rw [hQ2] at st2 sr2
        obtain ⟨R2, hR2⟩ : ∃ R2, V - Q2 * y1 = R2 := ⟨_, rfl⟩
        rw [hR2] at st2 sr2
        have r9 : IntKind.u64.wrap (V.tdiv y1) = Q2 := by
          rw [Int.tdiv_eq_ediv_of_nonneg v0, hQ2, IntKind.wrap_u64]
          obtain ⟨_, _, _, _, _, _, _, _, _, _, _, k1, k2, _⟩ := st2
          omega
        have r10 : IntKind.u64.wrap (V - IntKind.u64.wrap (Q2 * y1)) = R2 := by
          obtain ⟨_, _, _, _, _, _, _, _, _, k0, k3, k1, k2, _⟩ := st2
          rw [IntKind.wrap_u64, IntKind.wrap_u64]
          have : 0 ≤ Q2 * y1 := Int.mul_nonneg k1 (by omega)
          omega
        have ST2 : Hid _ := st2
        have HV : Hid _ := hV
        clear st2 hQ2 hR2 hV
        go_wp2_with fail
        go_loop [18, 16] (fun a b => ∃ Q R : Int, a = .int .u64 Q ∧ b = .int .u64 R ∧ Dig V Y y1 y0 un0 Q R ∧ R < 4294967296) (fun a _ => (intOf a).toNat)
        case atStart => exact ⟨Q2, R2, rfl, rfl, ST2.out, by omega⟩
        case round =>
          obtain ⟨p, u, rfl, rfl, hd, hr⟩ := hrel
          have HD : Hid _ := hd
          have q0 : 0 ≤ p := hd.2.2.2.2.2.2.2.2.2.2.2.1
          have q1 : p ≤ 4294967297 := hd.2.2.2.2.2.2.2.2.2.2.2.2.1
          have q2 : 0 ≤ u := hd.2.2.2.2.2.2.2.2.2.2.1
          clear hd
          by_cases c1 : 4294967296 ≤ p
          · obtain ⟨g1, hd2⟩ := dig_step HD.out (.inl c1)
            have t1 : decide (4294967296 ≤ p) = true := by simp; omega
            by_cases c2 : 4294967296 ≤ u + y1
            · have T0 := dig_out hd2 (by omega) c2
              have DD : Hid _ := hd2
              have T2 : Hid _ := T0
              clear hd2 T0 HD
              obtain ⟨z0, z1⟩ := dig_rest DD.out T2.out
              have pl := dig_lt DD.out T2.out
              obtain ⟨Z, hZ⟩ : ∃ Z, V * 4294967296 + un0 - (p - 1) * Y = Z := ⟨_, rfl⟩
              have FI := div_join (N := hi * 18446744073709551616 + lo) (q1 := (q)) (q0 := p - 1) (pow_pos_int s) (show 0 < y by omega) HY.out.symm D6.out HLs.out (by rw [HV.out]; exact z0) (by rw [HV.out]; exact z1)
              rw [HV.out, hZ] at FI
              rw [hZ] at z0 z1
              have r11 : IntKind.u64.wrap (IntKind.u64.wrap (IntKind.u64.wrap (V * 4294967296) + un0) - IntKind.u64.wrap ((p - 1) * Y)) = Z := by
                rw [IntKind.wrap_u64, IntKind.wrap_u64, IntKind.wrap_u64, IntKind.wrap_u64]; omega
              have HF : Hid _ := FI
              clear FI hZ
              go_wp2
              go_ret2
              exact ⟨ret_pair HF.out.1 HF.out.2, rfl⟩
            · have DD : Hid _ := hd2
              clear hd2 HD
              go_wp2
              go_round
              case rel => exact ⟨p - 1, u + y1, rfl, rfl, DD.out, by omega⟩
              case measure => simp [intOf]; omega
          · have m0 : 0 ≤ p * y0 := Int.mul_nonneg q0 b3
            have m1 : p * y0 ≤ 18446744065119617025 := by
              have := Int.mul_le_mul (show p ≤ 4294967295 by omega) (show y0 ≤ 4294967295 by omega) b3 (by decide)
              omega
            have t1 : decide (4294967296 ≤ p) = false := by simp; omega
            by_cases c3 : 4294967296 * u + un0 < p * y0
            · obtain ⟨g1, hd2⟩ := dig_step HD.out (.inr c3)
              have t2 : decide (4294967296 * u + un0 < p * y0) = true := by simp; omega
              by_cases c2 : 4294967296 ≤ u + y1
              · have T0 := dig_out hd2 (by omega) c2
                have DD : Hid _ := hd2
                have T2 : Hid _ := T0
                clear hd2 T0 HD
                obtain ⟨z0, z1⟩ := dig_rest DD.out T2.out
                have pl := dig_lt DD.out T2.out
                obtain ⟨Z, hZ⟩ : ∃ Z, V * 4294967296 + un0 - (p - 1) * Y = Z := ⟨_, rfl⟩
                have FI := div_join (N := hi * 18446744073709551616 + lo) (q1 := (q)) (q0 := p - 1) (pow_pos_int s) (show 0 < y by omega) HY.out.symm D6.out HLs.out (by rw [HV.out]; exact z0) (by rw [HV.out]; exact z1)
                rw [HV.out, hZ] at FI
                rw [hZ] at z0 z1
                have r11 : IntKind.u64.wrap (IntKind.u64.wrap (IntKind.u64.wrap (V * 4294967296) + un0) - IntKind.u64.wrap ((p - 1) * Y)) = Z := by
                  rw [IntKind.wrap_u64, IntKind.wrap_u64, IntKind.wrap_u64, IntKind.wrap_u64]; omega
                have HF : Hid _ := FI
                clear FI hZ
                go_wp2
                go_ret2
                exact ⟨ret_pair HF.out.1 HF.out.2, rfl⟩
              · have DD : Hid _ := hd2
                clear hd2 HD
                go_wp2
                go_round
                case rel => exact ⟨p - 1, u + y1, rfl, rfl, DD.out, by omega⟩
                case measure => simp [intOf]; omega
            · have T0 := dig_no HD.out (by omega)
              have t2 : decide (4294967296 * u + un0 < p * y0) = false := by simp; omega
              have T2 : Hid _ := T0
              clear T0
              obtain ⟨z0, z1⟩ := dig_rest HD.out T2.out
              have pl := dig_lt HD.out T2.out
              obtain ⟨Z, hZ⟩ : ∃ Z, V * 4294967296 + un0 - (p) * Y = Z := ⟨_, rfl⟩
              have FI := div_join (N := hi * 18446744073709551616 + lo) (q1 := (q)) (q0 := p) (pow_pos_int s) (show 0 < y by omega) HY.out.symm D6.out HLs.out (by rw [HV.out]; exact z0) (by rw [HV.out]; exact z1)
              rw [HV.out, hZ] at FI
              rw [hZ] at z0 z1
              have r11 : IntKind.u64.wrap (IntKind.u64.wrap (IntKind.u64.wrap (V * 4294967296) + un0) - IntKind.u64.wrap ((p) * Y)) = Z := by
                rw [IntKind.wrap_u64, IntKind.wrap_u64, IntKind.wrap_u64, IntKind.wrap_u64]; omega
              have HF : Hid _ := FI
              clear FI hZ
              go_wp2
              go_ret2
              exact ⟨ret_pair HF.out.1 HF.out.2, rfl⟩

set_option maxHeartbeats 400000 in
theorem div_zero (lo y : Int) (w : World) (h1 : 0 < y) (h2 : y < 18446744073709551616) (h3 : 0 ≤ lo) (h4 : lo < 18446744073709551616) :
    Calls Yba.prog 11 #[.int .u64 0, .int .u64 lo, .int .u64 y] w fun e w' => e = .returned (.tuple #[.int .u64 (lo / y), .int .u64 (lo % y)]) ∧ ∃ n, w' = w.drewN n := by
  have hy : ¬ y = 0 := by omega
  have hy' : (y == 0) = false := by simp; omega
  have k1 : 0 ≤ lo / y := Int.ediv_nonneg h3 (by omega)
  have k2 : lo / y ≤ lo := Int.ediv_le_self _ h3
  go_enter Yba.func11, Yba.ntmps11
  go_wp2
  go_quiet (fail)
  go_wp2
  go_ret2
  exact ⟨ret_pair rfl rfl, _, rfl⟩

theorem div_any (hi lo y : Int) (w : World) (h0 : 0 ≤ hi) (h1 : hi < y) (h2 : y < 18446744073709551616) (h3 : 0 ≤ lo) (h4 : lo < 18446744073709551616) :
    Calls Yba.prog 11 #[.int .u64 hi, .int .u64 lo, .int .u64 y] w fun e w' => e = .returned (.tuple #[.int .u64 ((hi * 18446744073709551616 + lo) / y), .int .u64 ((hi * 18446744073709551616 + lo) % y)]) ∧ ∃ n, w' = w.drewN n := by
  by_cases h : hi = 0
  · subst h
    rw [Int.zero_mul, Int.zero_add]
    exact div_zero lo y w h1 h2 h3 h4
  · exact (div_main hi lo y w (by omega) h1 h2 h3 h4).mono fun e w' ⟨a, b⟩ => ⟨a, 0, b⟩

set_option maxHeartbeats 400000 in
/-- math/bits.Rem64: it takes hi's rest first. -/
theorem rem_any (hi lo y : Int) (w : World) (h0 : 0 ≤ hi) (h0' : hi < 18446744073709551616) (h1 : 0 < y) (h2 : y < 18446744073709551616) (h3 : 0 ≤ lo) (h4 : lo < 18446744073709551616) :
    Calls Yba.prog 23 #[.int .u64 hi, .int .u64 lo, .int .u64 y] w fun e w' => e = .returned (.int .u64 ((hi % y * 18446744073709551616 + lo) % y)) ∧ ∃ n, w' = w.drewN n := by
  have hy : ¬ y = 0 := by omega
  have k1 := Int.emod_nonneg hi hy
  have k2 := Int.emod_lt_of_pos hi h1
  go_enter Yba.func23, Yba.ntmps23
  go_wp2_with fail
  refine (div_any (hi % y) lo y _ k1 k2 h2 h3 h4).mono ?_
  rintro e w' ⟨rfl, n, hw⟩
  go_wp2
  go_ret
  exact ⟨rfl, n, rfl⟩

end Go.Proofs.Ybulkcjtk

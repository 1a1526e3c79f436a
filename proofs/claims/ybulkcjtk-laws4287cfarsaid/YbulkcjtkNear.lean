/-
  LawS4287CNear: the walk.
-/
import Derived.Test.YbulkcjtkIdx
namespace Go.Proofs.Ybulkcjtk
open Go.RowKit

theorem xor_neg (d : Int) (h0 : -9223372036854775808 ≤ d) (h1 : d < 0) : bits .xor .i64 (-1) d = -d - 1 := by
  have e : (BitVec.ofInt 64 (-1) ^^^ BitVec.ofInt 64 d).toNat = (-d - 1).toNat := by
    rw [show BitVec.ofInt 64 (-1) = BitVec.allOnes 64 from by decide, BitVec.allOnes_xor, BitVec.toNat_not, BitVec.toNat_ofInt]
    omega
  show IntKind.i64.wrap ((BitVec.ofInt 64 (-1) ^^^ BitVec.ofInt 64 d).toNat : Int) = _
  rw [e, IntKind.wrap_i64]
  omega

set_option maxHeartbeats 400000 in
theorem nonneg_any (d : Int) (w : World) (h0 : -9223372036854775808 ≤ d) (h1 : d ≤ 9223372036854775807) :
    Calls Yba.prog 8 #[.int .i64 d] w fun e w' => ∃ v, e = .returned (.int .i64 v) ∧ 0 ≤ v ∧ v ≤ 9223372036854775807 ∧ w' = w := by
  by_cases h : d < 0
  · have hx := xor_neg d h0 h
    go_enter Yba.func8, Yba.ntmps8
    go_wp2
    go_ret
    exact ⟨-d - 1, rfl, by omega, by omega, rfl⟩
  · go_enter Yba.func8, Yba.ntmps8
    go_wp2
    go_ret
    exact ⟨_, rfl, by omega, by omega, rfl⟩

set_option maxHeartbeats 400000 in
theorem tick_any (d : Int) (w : World) (h0 : -9223372036854775808 ≤ d) (h1 : d ≤ 9223372036854775807) :
    Calls Yba.prog 5 #[.int .i64 d] w fun e w' => ∃ v, e = .returned (.int .i64 v) ∧ 1 ≤ v ∧ v ≤ 9223372036854775807 ∧ w' = w := by
  go_enter Yba.func5, Yba.ntmps5
  go_wp2_with fail
  refine (nonneg_any d _ h0 h1).mono ?_
  rintro e w1 ⟨v, rfl, v0, v1, hw⟩
  obtain rfl := hw.symm
  clear hw
  by_cases h : v = 0
  · subst h
    go_wp2
    go_ret
    exact ⟨_, rfl, by decide, by decide, rfl⟩
  · have hb : (v == 0) = false := by simp [h]
    go_wp2
    go_ret
    exact ⟨_, rfl, by omega, by omega, rfl⟩

/-- The grid in its variable, read behind a call that made memory. -/
theorem grid_cells {w2 w4 : World} {a s T recip : Int} {l : Nat} {fit : Bool}
    (hb : Below (w2.alloc (.cells #[.int .u64 a, .int .i64 s, .pointer none, .int .i64 T, .int .u64 recip, .int .u64 (l : Nat), .bool fit] 30)).heap.size (w2.alloc (.cells #[.int .u64 a, .int .i64 s, .pointer none, .int .i64 T, .int .u64 recip, .int .u64 (l : Nat), .bool fit] 30)) w4) :
    w2.heap.size < w4.heap.size ∧ w4.cell? ⟨w2.heap.size, 0, none⟩ = some (.int .u64 a) ∧ w4.cell? ⟨w2.heap.size, 1, none⟩ = some (.int .i64 s) ∧ w4.cell? ⟨w2.heap.size, 2, none⟩ = some (.pointer none) ∧
      w4.cell? ⟨w2.heap.size, 3, none⟩ = some (.int .i64 T) ∧ w4.cell? ⟨w2.heap.size, 4, none⟩ = some (.int .u64 recip) ∧ w4.cell? ⟨w2.heap.size, 5, none⟩ = some (.int .u64 (l : Nat)) := by
  have hs := hb.size
  refine ⟨by simp at hs; omega, ?_, ?_, ?_, ?_, ?_, ?_⟩
  · rw [hb.cell (p := ⟨w2.heap.size, 0, none⟩) (by simp)]; simp
  · rw [hb.cell (p := ⟨w2.heap.size, 1, none⟩) (by simp)]; simp
  · rw [hb.cell (p := ⟨w2.heap.size, 2, none⟩) (by simp)]; simp
  · rw [hb.cell (p := ⟨w2.heap.size, 3, none⟩) (by simp)]; simp
  · rw [hb.cell (p := ⟨w2.heap.size, 4, none⟩) (by simp)]; simp
  · rw [hb.cell (p := ⟨w2.heap.size, 5, none⟩) (by simp)]; simp

set_option maxHeartbeats 1000000 in
theorem near_walk (o d k : Int) (w : World) (o0 : -9223372036854775808 ≤ o) (o1 : o ≤ 9223372036854775807) (d0 : -9223372036854775808 ≤ d) (d1 : d ≤ 9223372036854775807) (k0 : -9223372036854775808 ≤ k) (k1 : k ≤ 9223372036854775807) :
    Calls Yba.prog 3 #[.int .i64 o, .int .i64 d, .int .i64 k] w fun e w' => e = .returned (.bool true) ∧ Below w.heap.size w w' := by
  go_enter Yba.func3, Yba.ntmps3
  go_wp2_with fail
  refine (tick_any k _ k0 k1).mono ?_
  rintro e w1 ⟨T, rfl, T0, T1, hw⟩
  obtain rfl := hw.symm
  clear hw
  go_wp2_with fail
  refine (add_bel 0 0 0 o _ (by exact ⟨by decide, by decide, by decide⟩) (by decide) (by decide) o0 o1).mono ?_
  rintro e w1 ⟨a, s, rfl, hO, hb1⟩
  rw [Int.zero_add] at hO
  have HO : Hid _ := hO
  clear hO
  go_wp2_with fail
  refine (new_any o a s T _ HO.out (by omega) (by omega) T0 T1).mono ?_
  rintro e w2 ⟨recip, l, fit, rfl, hR, hb2⟩
  have HR : Hid _ := hR
  have hb12 : Below w.heap.size w w2 := hb1.trans (hb2.mono hb1.size)
  clear hR hb1 hb2
  go_wp2_with fail
  refine (nonneg_any d _ d0 d1).mono ?_
  rintro e w3 ⟨D, rfl, D0, D1, hw⟩
  obtain rfl := hw.symm
  clear hw
  obtain ⟨s0, s1⟩ := TM_sec HO.out (by omega) (by omega)
  go_wp2_with fail
  refine (add_bel o a s D _ HO.out s0 s1 (by omega) D1).mono ?_
  rintro e w4 ⟨b, t, rfl, hM, hb4⟩
  have HM : Hid _ := hM
  clear hM
  obtain ⟨g0, c0, c1, c2, c3, c4, c5⟩ := grid_cells hb4
  have hbw : Below w.heap.size w w4 := hb12.trans ((bal (Below.refl _ w2) _).trans (hb4.mono (by simp)) |>.mono hb12.size)
  have hI : Idx w2.heap.size (o + D) o a s b t T recip l w4 := ⟨HM.out, HO.out, by omega, by omega, by omega, by omega, by omega, HR.out, T0, T1, g0, c0, c1, c2, c3, c4, c5⟩
  have HI : Hid _ := hI
  have e1 : o + D - o = D := by omega
  have E1 : Hid _ := e1
  have q0 : 0 ≤ D / T := Int.ediv_nonneg D0 (by omega)
  have q1 : D / T ≤ D := Int.ediv_le_self _ D0
  have q2 := Int.emod_nonneg D (show T ≠ 0 by omega)
  have q3 := Int.emod_lt_of_pos D (show 0 < T by omega)
  clear hI hb12 hb4 c0 c1 c2 c3 c4 c5 e1
  go_wp2_with fail
  refine (index_ok w2.heap.size (o + D) o a s b t T recip l _ HI.out (by rw [E1.out]; omega)).mono ?_
  rw [E1.out]
  rintro e w5 ⟨rfl, hb5⟩
  go_wp2
  go_ret
  exact ⟨rfl, hbw.trans (hb5.mono hbw.size)⟩

end Go.Proofs.Ybulkcjtk

/-
  (*Grid).index.
-/
import Derived.Test.YbulkcjtkSplit
import Derived.Test.YbulkcjtkWords
namespace Go.Proofs.Ybulkcjtk
open Go.RowKit

/-- What stands in memory while index runs: the instant in a box of its own (block B), the grid behind the receiver (block g). -/
abbrev IdxS (B g : Nat) (W : World) (a s b t T recip : Int) (l : Nat) (w' : World) : Prop :=
  w'.cell? ⟨B, 0, none⟩ = some (.int .u64 b) ∧
  w'.cell? ⟨B, 1, none⟩ = some (.int .i64 t) ∧
  w'.cell? ⟨B, 2, none⟩ = some (.pointer none) ∧
  w'.cell? ⟨g, 0, none⟩ = some (.int .u64 a) ∧
  w'.cell? ⟨g, 1, none⟩ = some (.int .i64 s) ∧
  w'.cell? ⟨g, 2, none⟩ = some (.pointer none) ∧
  w'.cell? ⟨g, 3, none⟩ = some (.int .i64 T) ∧
  w'.cell? ⟨g, 4, none⟩ = some (.int .u64 recip) ∧
  w'.cell? ⟨g, 5, none⟩ = some (.int .u64 (l : Nat)) ∧
  g < B ∧ B < w'.heap.size ∧ Below W.heap.size W w'

theorem idxS_keep {B g : Nat} {W X w' : World} {a s b t T recip : Int} {l : Nat} (h : IdxS B g W a s b t T recip l X) (hb : Below X.heap.size X w') : IdxS B g W a s b t T recip l w' := by
  obtain ⟨h1, h2, h3, h4, h5, h6, h7, h8, h9, k1, k2, k3⟩ := h
  have hs := hb.size
  refine ⟨?_, ?_, ?_, ?_, ?_, ?_, ?_, ?_, ?_, k1, by omega, k3.trans (hb.mono k3.size)⟩
  · rw [hb.cell (p := ⟨B, 0, none⟩) (by show B < _; omega)]; exact h1
  · rw [hb.cell (p := ⟨B, 1, none⟩) (by show B < _; omega)]; exact h2
  · rw [hb.cell (p := ⟨B, 2, none⟩) (by show B < _; omega)]; exact h3
  · rw [hb.cell (p := ⟨g, 0, none⟩) (by show g < _; omega)]; exact h4
  · rw [hb.cell (p := ⟨g, 1, none⟩) (by show g < _; omega)]; exact h5
  · rw [hb.cell (p := ⟨g, 2, none⟩) (by show g < _; omega)]; exact h6
  · rw [hb.cell (p := ⟨g, 3, none⟩) (by show g < _; omega)]; exact h7
  · rw [hb.cell (p := ⟨g, 4, none⟩) (by show g < _; omega)]; exact h8
  · rw [hb.cell (p := ⟨g, 5, none⟩) (by show g < _; omega)]; exact h9
theorem idxS_draw {B g : Nat} {W X : World} {a s b t T recip : Int} {l : Nat} (h : IdxS B g W a s b t T recip l X) : IdxS B g W a s b t T recip l X.drew := idxS_keep h (Below.refl _ _).drew

theorem sub_max (M N a s b t : Int) (w : World) (hM : TM M a s) (hN : TM N b t) (s0 : -1000000000000000000 ≤ s) (s1 : s ≤ 1000000000000000000) (t0 : -1000000000000000000 ≤ t) (t1 : t ≤ 1000000000000000000) (hge : 9223372036854775807 ≤ M - N) :
    Calls Yba.prog 12 #[.agg #[.int .u64 a, .int .i64 s, .pointer none], .agg #[.int .u64 b, .int .i64 t, .pointer none]] w fun e w' => e = .returned (.int .i64 9223372036854775807) ∧ Below w.heap.size w w' := by
  by_cases h : M - N = 9223372036854775807
  · exact sub_eq M N _ a s b t w hM hN s0 s1 t0 t1 h (by decide) (by decide)
  · exact sub_far M N a s b t w hM hN s0 s1 t0 t1 (by omega) (by omega)

/-- The world as index begins: the instant has been boxed. -/
theorem idxS_start {g : Nat} {w : World} {a s b t T recip : Int} {l : Nat} (hg : g < w.heap.size)
    (c0 : w.cell? ⟨g, 0, none⟩ = some (.int .u64 a)) (c1 : w.cell? ⟨g, 1, none⟩ = some (.int .i64 s)) (c2 : w.cell? ⟨g, 2, none⟩ = some (.pointer none)) (c3 : w.cell? ⟨g, 3, none⟩ = some (.int .i64 T)) (c4 : w.cell? ⟨g, 4, none⟩ = some (.int .u64 recip)) (c5 : w.cell? ⟨g, 5, none⟩ = some (.int .u64 (l : Nat))) :
    IdxS w.heap.size g w a s b t T recip l (w.alloc (.cells #[.int .u64 b, .int .i64 t, .pointer none] 27)) := by
  have hb := bal (Below.refl _ w) (.cells #[.int .u64 b, .int .i64 t, .pointer none] 27)
  refine ⟨by simp, by simp, by simp, ?_, ?_, ?_, ?_, ?_, ?_, hg, by simp, hb⟩
  · rw [hb.cell (p := ⟨g, 0, none⟩) hg]; exact c0
  · rw [hb.cell (p := ⟨g, 1, none⟩) hg]; exact c1
  · rw [hb.cell (p := ⟨g, 2, none⟩) hg]; exact c2
  · rw [hb.cell (p := ⟨g, 3, none⟩) hg]; exact c3
  · rw [hb.cell (p := ⟨g, 4, none⟩) hg]; exact c4
  · rw [hb.cell (p := ⟨g, 5, none⟩) hg]; exact c5

/-- All that index is told. -/
structure Idx (g : Nat) (M N a s b t T recip : Int) (l : Nat) (w : World) : Prop where
  hM : TM M b t
  hN : TM N a s
  m0 : -100000000000000000000 ≤ M
  m1 : M ≤ 100000000000000000000
  n0 : -100000000000000000000 ≤ N
  n1 : N ≤ 100000000000000000000
  hle : N ≤ M
  rcp : Rcp T recip l
  T0 : 1 ≤ T
  T1 : T ≤ 9223372036854775807
  hg : g < w.heap.size
  c0 : w.cell? ⟨g, 0, none⟩ = some (.int .u64 a)
  c1 : w.cell? ⟨g, 1, none⟩ = some (.int .i64 s)
  c2 : w.cell? ⟨g, 2, none⟩ = some (.pointer none)
  c3 : w.cell? ⟨g, 3, none⟩ = some (.int .i64 T)
  c4 : w.cell? ⟨g, 4, none⟩ = some (.int .u64 recip)
  c5 : w.cell? ⟨g, 5, none⟩ = some (.int .u64 (l : Nat))

theorem ret_three {k0 k1 : IntKind} {a b c d : Int} {x : Bool} (h1 : a = c) (h2 : b = d) : Ending.returned (.tuple #[.int k0 a, .int k1 b, .bool x]) = .returned (.tuple #[.int k0 c, .int k1 d, .bool x]) := by rw [h1, h2]

set_option maxHeartbeats 1000000 in
theorem index_near (g : Nat) (M N a s b t T recip : Int) (l : Nat) (w : World) (h : Idx g M N a s b t T recip l w) (hlt : M - N < 9223372036854775807) :
    Calls Yba.prog 9 #[.pointer (some ⟨g, 0, none⟩), .agg #[.int .u64 b, .int .i64 t, .pointer none]] w fun e w' => e = .returned (.tuple #[.int .u64 ((M - N) / T), .int .i64 ((M - N) % T), .bool true]) ∧ Below w.heap.size w w' := by
  have hS := idxS_start (b := b) (t := t) h.hg h.c0 h.c1 h.c2 h.c3 h.c4 h.c5
  obtain ⟨hM, hN, m0, m1, n0, n1, hle, rcp, T0, T1, hg, _, _, _, _, _, _⟩ := h
  obtain ⟨s0, s1⟩ := TM_sec hN (by omega) (by omega)
  obtain ⟨t0, t1⟩ := TM_sec hM (by omega) (by omega)
  obtain ⟨D, hD⟩ : ∃ D, M - N = D := ⟨_, rfl⟩
  have d0 : 0 ≤ D := by omega
  have d1 : D < 9223372036854775807 := by omega
  have e1 : D % T = D - D / T * T := by rw [Int.emod_def, Int.mul_comm]
  rw [hD, e1]
  have HS : Hid _ := hS
  have HM : Hid _ := hM
  have HN : Hid _ := hN
  have HD : Hid _ := hD
  have HR : Hid _ := rcp
  clear hS hM hN hD m0 m1 n0 n1 hle hlt e1 rcp
  go_enter Yba.func9, Yba.ntmps9
  go_wp2_with fail
  go_region_held3 (fun w' => IdxS w.heap.size g w a s b t T recip l w') (first | exact idxS_draw HS.out | exact idxS_keep (by assumption) (by assumption))
    (first
      | (go_at_call 12; refine (sub_eq M N D b t a s _ HM.out HN.out t0 t1 s0 s1 HD.out d0 (by omega)).mono ?_; rintro e w' ⟨rfl, hb1⟩))
  have hF : IdxS w.heap.size g w a s b t T recip l w' := by assumption
  obtain ⟨f1, f2, f3, f4, f5, f6, f7, f8, f9, f10, f11, f12⟩ := hF
  go_wp2_with fail
  refine (split_any g D T recip l _ HR.out T0 T1 d0 (by omega) f7 f8 f9).mono ?_
  rintro e w9 ⟨rfl, n, hw⟩
  obtain rfl := hw.symm
  clear hw
  go_wp2
  go_ret3
  exact ⟨rfl, below_drewN f12 n⟩

theorem borrow_words {X c D : Int} (h : D = X - c) (c0 : 0 ≤ c) (c1 : c < 1000000001) (d0 : 0 ≤ D) (x2 : X < 1000000000000000000000000000) :
    IntKind.u64.wrap (X / 18446744073709551616 - bor (X % 18446744073709551616) c) = D / 18446744073709551616 := by
  have e1 := Int.mul_ediv_add_emod X 18446744073709551616
  have e2 := Int.mul_ediv_add_emod D 18446744073709551616
  have l0 := Int.emod_nonneg X (show (18446744073709551616 : Int) ≠ 0 by decide)
  have l1 := Int.emod_lt_of_pos X (show (0 : Int) < 18446744073709551616 by decide)
  have q0 := Int.emod_nonneg D (show (18446744073709551616 : Int) ≠ 0 by decide)
  have q1 := Int.emod_lt_of_pos D (show (0 : Int) < 18446744073709551616 by decide)
  have p0 : 0 ≤ D / 18446744073709551616 := Int.ediv_nonneg d0 (by decide)
  generalize X / 18446744073709551616 = H at *
  generalize X % 18446744073709551616 = L at *
  generalize D / 18446744073709551616 = P at *
  generalize D % 18446744073709551616 = Q at *
  have key : H - bor L c = P := by
    unfold bor
    split <;> omega
  rw [key, IntKind.wrap_u64, Int.emod_eq_of_lt p0 (by omega)]

set_option maxHeartbeats 1000000 in
theorem index_far_up (g : Nat) (M N a s b t T recip : Int) (l : Nat) (w : World) (h : Idx g M N a s b t T recip l w) (hge : 9223372036854775807 ≤ M - N) (hns : 0 ≤ b - a) (hov : (M - N) / 18446744073709551616 < T) :
    Calls Yba.prog 9 #[.pointer (some ⟨g, 0, none⟩), .agg #[.int .u64 b, .int .i64 t, .pointer none]] w fun e w' => e = .returned (.tuple #[.int .u64 ((M - N) / T), .int .i64 ((M - N) % T), .bool true]) ∧ Below w.heap.size w w' := by
  have hS := idxS_start (b := b) (t := t) h.hg h.c0 h.c1 h.c2 h.c3 h.c4 h.c5
  obtain ⟨hM, hN, m0, m1, n0, n1, hle, _, T0, T1, hg, _, _, _, _, _, _⟩ := h
  obtain ⟨s0, s1⟩ := TM_sec hN (by omega) (by omega)
  obtain ⟨t0, t1⟩ := TM_sec hM (by omega) (by omega)
  have a0 := hN.1; have a1 := hN.2.1; have b0 := hM.1; have b1 := hM.2.1
  have u0 : 0 ≤ t - s := by
    have := hM.2.2; have := hN.2.2
    omega
  have r1 : IntKind.u64.wrap (IntKind.u64.wrap (t + -62135596800) - IntKind.u64.wrap (s + -62135596800)) = t - s := by
    rw [IntKind.wrap_u64, IntKind.wrap_u64, IntKind.wrap_u64]; omega
  obtain ⟨X, hX⟩ : ∃ X, (t - s) * 1000000000 = X := ⟨_, rfl⟩
  have x1 : M - N = X + (b - a) := by
    have := hM.2.2; have := hN.2.2
    omega
  have x0 : 0 ≤ X := by omega
  have x2 : X < 1000000000000000000000000000 := by omega
  obtain ⟨D, hD⟩ : ∃ D, M - N = D := ⟨_, rfl⟩
  have d0 : 0 ≤ D := by omega
  have w1 : (X % 18446744073709551616 + (b - a)) % 18446744073709551616 = D % 18446744073709551616 := by omega
  have w2 : IntKind.u64.wrap (X / 18446744073709551616 + (X % 18446744073709551616 + (b - a)) / 18446744073709551616) = D / 18446744073709551616 := by rw [IntKind.wrap_u64]; omega
  have w3 : 0 ≤ X % 18446744073709551616 := by omega
  have w4 : 0 ≤ b - a := by omega
  have x3 : X / 18446744073709551616 < 18446744073709551616 := by omega
  have z1 := Int.emod_nonneg D (show T ≠ 0 by omega)
  have z2 := Int.emod_lt_of_pos D (show 0 < T by omega)
  rw [hD] at hge hov ⊢
  obtain ⟨Hi, hHi⟩ : ∃ Hi, D / 18446744073709551616 = Hi := ⟨_, rfl⟩
  obtain ⟨Lo, hLo⟩ : ∃ Lo, D % 18446744073709551616 = Lo := ⟨_, rfl⟩
  rw [hHi] at w2 hov
  rw [hLo] at w1
  have v0 : 0 ≤ Hi := by omega
  have v1 : Hi < 18446744073709551616 := by omega
  have v2 : 0 ≤ Lo := by omega
  have v3 : Lo < 18446744073709551616 := by omega
  have v4 : Hi * 18446744073709551616 + Lo = D := by omega
  have v5 : (Hi % T * 18446744073709551616 + Lo) % T = D % T := by
    rw [← v4, Int.add_emod, Int.mul_emod, Int.emod_emod_of_dvd Hi (Int.dvd_refl T), ← Int.mul_emod, ← Int.add_emod]
  obtain ⟨Q, hQ⟩ : ∃ Q, D / T = Q := ⟨_, rfl⟩
  obtain ⟨R, hR⟩ : ∃ R, D % T = R := ⟨_, rfl⟩
  rw [hR] at z1 z2 v5
  rw [hQ]
  rw [hR]
  have HS : Hid _ := hS
  have HM : Hid _ := hM
  have HN : Hid _ := hN
  have HD : Hid _ := hD
  have HG : Hid _ := hge
  have HV : Hid _ := v4
  have HV5 : Hid _ := v5
  have HQ : Hid _ := hQ
  have HR : Hid _ := hR
  clear hS hM hN hD m0 m1 n0 n1 hle hge v4 v5 hHi hLo x1 d0 hQ hR
  go_enter Yba.func9, Yba.ntmps9
  go_wp2_with fail
  go_region_held3 (fun w' => IdxS w.heap.size g w a s b t T recip l w') (first | exact idxS_draw HS.out | exact idxS_keep (by assumption) (by assumption))
    (first
      | (go_at_call 12; refine (sub_max M N b t a s _ HM.out HN.out t0 t1 s0 s1 (by rw [HD.out]; exact HG.out)).mono ?_; rintro e w' ⟨rfl, hb1⟩))
  have hF1 : IdxS w.heap.size g w a s b t T recip l w' := by assumption
  obtain ⟨wa, ha⟩ : ∃ wa, w' = wa := ⟨_, rfl⟩
  rw [ha] at hF1 ⊢
  have HF1 : Hid _ := hF1
  clear hF1 hb1
  go_wp2_with fail
  go_region_held3 (fun w' => IdxS w.heap.size g w a s b t T recip l w') (first | exact idxS_draw HF1.out | exact idxS_keep (by assumption) (by assumption))
    (first
      | (go_at_call_of 19 b; refine (unix_any b t _ b0 b1 t0 t1).mono ?_; rintro e w' ⟨rfl, hb2⟩)
      | (go_at_call_of 19 a; refine (unix_any a s _ a0 a1 s0 s1).mono ?_; rintro e w' ⟨rfl, hb3⟩))
  have hF2 : IdxS w.heap.size g w a s b t T recip l w' := by assumption
  obtain ⟨wb, hb⟩ : ∃ wb, w' = wb := ⟨_, rfl⟩
  rw [hb] at hF2 ⊢
  have HF2 : Hid _ := hF2
  clear hF2 hb2 hb3
  go_wp2_with fail
  refine (mul_any (t - s) 1000000000 _ u0 (by omega) (by decide) (by decide)).mono ?_
  rintro e w9 ⟨rfl, hw⟩
  obtain rfl := hw.symm
  clear hw
  go_wp2_with fail
  go_region_held3 (fun w' => IdxS w.heap.size g w a s b t T recip l w') (first | exact idxS_draw HF2.out | exact idxS_keep (by assumption) (by assumption))
    (first
      | (go_at_call_of 21 b; refine (nano_any b t _ b0 b1).mono ?_; rintro e w' ⟨rfl, hb4⟩)
      | (go_at_call_of 21 a; refine (nano_any a s _ a0 a1).mono ?_; rintro e w' ⟨rfl, hb5⟩))
  have hF3 : IdxS w.heap.size g w a s b t T recip l w' := by assumption
  obtain ⟨wc, hcw⟩ : ∃ wc, w' = wc := ⟨_, rfl⟩
  rw [hcw] at hF3 ⊢
  obtain ⟨f1, f2, f3, f4, f5, f6, f7, f8, f9, f10, f11, f12⟩ := hF3
  clear hb4 hb5
  go_wp2_with simp only [add64_0 _ _ w3 w4]
  refine (div_any Hi Lo T _ v0 hov (by omega) v2 v3).mono ?_
  rintro e w9 ⟨rfl, n, hw⟩
  obtain rfl := hw.symm
  clear hw
  rw [HV.out, HQ.out, HR.out]
  go_wp2
  go_ret3
  exact ⟨rfl, below_drewN f12 n⟩

set_option maxHeartbeats 1000000 in
theorem index_far_up_over (g : Nat) (M N a s b t T recip : Int) (l : Nat) (w : World) (h : Idx g M N a s b t T recip l w) (hge : 9223372036854775807 ≤ M - N) (hns : 0 ≤ b - a) (hov : T ≤ (M - N) / 18446744073709551616) :
    Calls Yba.prog 9 #[.pointer (some ⟨g, 0, none⟩), .agg #[.int .u64 b, .int .i64 t, .pointer none]] w fun e w' => e = .returned (.tuple #[.int .u64 0, .int .i64 ((M - N) % T), .bool false]) ∧ Below w.heap.size w w' := by
  have hS := idxS_start (b := b) (t := t) h.hg h.c0 h.c1 h.c2 h.c3 h.c4 h.c5
  obtain ⟨hM, hN, m0, m1, n0, n1, hle, _, T0, T1, hg, _, _, _, _, _, _⟩ := h
  obtain ⟨s0, s1⟩ := TM_sec hN (by omega) (by omega)
  obtain ⟨t0, t1⟩ := TM_sec hM (by omega) (by omega)
  have a0 := hN.1; have a1 := hN.2.1; have b0 := hM.1; have b1 := hM.2.1
  have u0 : 0 ≤ t - s := by
    have := hM.2.2; have := hN.2.2
    omega
  have r1 : IntKind.u64.wrap (IntKind.u64.wrap (t + -62135596800) - IntKind.u64.wrap (s + -62135596800)) = t - s := by
    rw [IntKind.wrap_u64, IntKind.wrap_u64, IntKind.wrap_u64]; omega
  obtain ⟨X, hX⟩ : ∃ X, (t - s) * 1000000000 = X := ⟨_, rfl⟩
  have x1 : M - N = X + (b - a) := by
    have := hM.2.2; have := hN.2.2
    omega
  have x0 : 0 ≤ X := by omega
  have x2 : X < 1000000000000000000000000000 := by omega
  obtain ⟨D, hD⟩ : ∃ D, M - N = D := ⟨_, rfl⟩
  have d0 : 0 ≤ D := by omega
  have w1 : (X % 18446744073709551616 + (b - a)) % 18446744073709551616 = D % 18446744073709551616 := by omega
  have w2 : IntKind.u64.wrap (X / 18446744073709551616 + (X % 18446744073709551616 + (b - a)) / 18446744073709551616) = D / 18446744073709551616 := by rw [IntKind.wrap_u64]; omega
  have w3 : 0 ≤ X % 18446744073709551616 := by omega
  have w4 : 0 ≤ b - a := by omega
  have x3 : X / 18446744073709551616 < 18446744073709551616 := by omega
  have z1 := Int.emod_nonneg D (show T ≠ 0 by omega)
  have z2 := Int.emod_lt_of_pos D (show 0 < T by omega)
  rw [hD] at hge hov ⊢
  obtain ⟨Hi, hHi⟩ : ∃ Hi, D / 18446744073709551616 = Hi := ⟨_, rfl⟩
  obtain ⟨Lo, hLo⟩ : ∃ Lo, D % 18446744073709551616 = Lo := ⟨_, rfl⟩
  rw [hHi] at w2 hov
  rw [hLo] at w1
  have v0 : 0 ≤ Hi := by omega
  have v1 : Hi < 18446744073709551616 := by omega
  have v2 : 0 ≤ Lo := by omega
  have v3 : Lo < 18446744073709551616 := by omega
  have v4 : Hi * 18446744073709551616 + Lo = D := by omega
  have v5 : (Hi % T * 18446744073709551616 + Lo) % T = D % T := by
    rw [← v4, Int.add_emod, Int.mul_emod, Int.emod_emod_of_dvd Hi (Int.dvd_refl T), ← Int.mul_emod, ← Int.add_emod]
  obtain ⟨Q, hQ⟩ : ∃ Q, D / T = Q := ⟨_, rfl⟩
  obtain ⟨R, hR⟩ : ∃ R, D % T = R := ⟨_, rfl⟩
  rw [hR] at z1 z2 v5
  rw [hR]
  have HS : Hid _ := hS
  have HM : Hid _ := hM
  have HN : Hid _ := hN
  have HD : Hid _ := hD
  have HG : Hid _ := hge
  have HV : Hid _ := v4
  have HV5 : Hid _ := v5
  have HQ : Hid _ := hQ
  have HR : Hid _ := hR
  clear hS hM hN hD m0 m1 n0 n1 hle hge v4 v5 hHi hLo x1 d0 hQ hR
  go_enter Yba.func9, Yba.ntmps9
  go_wp2_with fail
  go_region_held3 (fun w' => IdxS w.heap.size g w a s b t T recip l w') (first | exact idxS_draw HS.out | exact idxS_keep (by assumption) (by assumption))
    (first
      | (go_at_call 12; refine (sub_max M N b t a s _ HM.out HN.out t0 t1 s0 s1 (by rw [HD.out]; exact HG.out)).mono ?_; rintro e w' ⟨rfl, hb1⟩))
  have hF1 : IdxS w.heap.size g w a s b t T recip l w' := by assumption
  obtain ⟨wa, ha⟩ : ∃ wa, w' = wa := ⟨_, rfl⟩
  rw [ha] at hF1 ⊢
  have HF1 : Hid _ := hF1
  clear hF1 hb1
  go_wp2_with fail
  go_region_held3 (fun w' => IdxS w.heap.size g w a s b t T recip l w') (first | exact idxS_draw HF1.out | exact idxS_keep (by assumption) (by assumption))
    (first
      | (go_at_call_of 19 b; refine (unix_any b t _ b0 b1 t0 t1).mono ?_; rintro e w' ⟨rfl, hb2⟩)
      | (go_at_call_of 19 a; refine (unix_any a s _ a0 a1 s0 s1).mono ?_; rintro e w' ⟨rfl, hb3⟩))
  have hF2 : IdxS w.heap.size g w a s b t T recip l w' := by assumption
  obtain ⟨wb, hb⟩ : ∃ wb, w' = wb := ⟨_, rfl⟩
  rw [hb] at hF2 ⊢
  have HF2 : Hid _ := hF2
  clear hF2 hb2 hb3
  go_wp2_with fail
  refine (mul_any (t - s) 1000000000 _ u0 (by omega) (by decide) (by decide)).mono ?_
  rintro e w9 ⟨rfl, hw⟩
  obtain rfl := hw.symm
  clear hw
  go_wp2_with fail
  go_region_held3 (fun w' => IdxS w.heap.size g w a s b t T recip l w') (first | exact idxS_draw HF2.out | exact idxS_keep (by assumption) (by assumption))
    (first
      | (go_at_call_of 21 b; refine (nano_any b t _ b0 b1).mono ?_; rintro e w' ⟨rfl, hb4⟩)
      | (go_at_call_of 21 a; refine (nano_any a s _ a0 a1).mono ?_; rintro e w' ⟨rfl, hb5⟩))
  have hF3 : IdxS w.heap.size g w a s b t T recip l w' := by assumption
  obtain ⟨wc, hcw⟩ : ∃ wc, w' = wc := ⟨_, rfl⟩
  rw [hcw] at hF3 ⊢
  obtain ⟨f1, f2, f3, f4, f5, f6, f7, f8, f9, f10, f11, f12⟩ := hF3
  clear hb4 hb5
  go_wp2_with simp only [add64_0 _ _ w3 w4]
  refine (rem_any Hi Lo T _ v0 (by omega) (by omega) (by omega) v2 v3).mono ?_
  rintro e w9 ⟨rfl, n, hw⟩
  obtain rfl := hw.symm
  clear hw
  rw [HV5.out]
  go_wp2
  go_ret3
  exact ⟨rfl, below_drewN f12 n⟩

set_option maxHeartbeats 1000000 in
theorem index_far_down (g : Nat) (M N a s b t T recip : Int) (l : Nat) (w : World) (h : Idx g M N a s b t T recip l w) (hge : 9223372036854775807 ≤ M - N) (hns : b - a < 0) (hov : (M - N) / 18446744073709551616 < T) :
    Calls Yba.prog 9 #[.pointer (some ⟨g, 0, none⟩), .agg #[.int .u64 b, .int .i64 t, .pointer none]] w fun e w' => e = .returned (.tuple #[.int .u64 ((M - N) / T), .int .i64 ((M - N) % T), .bool true]) ∧ Below w.heap.size w w' := by
  have hS := idxS_start (b := b) (t := t) h.hg h.c0 h.c1 h.c2 h.c3 h.c4 h.c5
  obtain ⟨hM, hN, m0, m1, n0, n1, hle, _, T0, T1, hg, _, _, _, _, _, _⟩ := h
  obtain ⟨s0, s1⟩ := TM_sec hN (by omega) (by omega)
  obtain ⟨t0, t1⟩ := TM_sec hM (by omega) (by omega)
  have a0 := hN.1; have a1 := hN.2.1; have b0 := hM.1; have b1 := hM.2.1
  have u0 : 0 ≤ t - s := by
    have := hM.2.2; have := hN.2.2
    omega
  have r1 : IntKind.u64.wrap (IntKind.u64.wrap (t + -62135596800) - IntKind.u64.wrap (s + -62135596800)) = t - s := by
    rw [IntKind.wrap_u64, IntKind.wrap_u64, IntKind.wrap_u64]; omega
  obtain ⟨X, hX⟩ : ∃ X, (t - s) * 1000000000 = X := ⟨_, rfl⟩
  have x1 : M - N = X + (b - a) := by
    have := hM.2.2; have := hN.2.2
    omega
  have x0 : 0 ≤ X := by omega
  have x2 : X < 1000000000000000000000000000 := by omega
  obtain ⟨D, hD⟩ : ∃ D, M - N = D := ⟨_, rfl⟩
  have d0 : 0 ≤ D := by omega
  obtain ⟨c, hc⟩ : ∃ c, -(b - a) = c := ⟨_, rfl⟩
  have w3 : 0 ≤ X % 18446744073709551616 := by omega
  have w4 : 0 ≤ c := by omega
  have w5 : c < 18446744073709551616 := by omega
  have w1 : (X % 18446744073709551616 - c) % 18446744073709551616 = D % 18446744073709551616 := by omega
  have w2 : IntKind.u64.wrap (X / 18446744073709551616 - bor (X % 18446744073709551616) c) = D / 18446744073709551616 := borrow_words (by omega) w4 (by omega) d0 x2
  have x3 : X / 18446744073709551616 < 18446744073709551616 := by omega
  have z1 := Int.emod_nonneg D (show T ≠ 0 by omega)
  have z2 := Int.emod_lt_of_pos D (show 0 < T by omega)
  rw [hD] at hge hov ⊢
  obtain ⟨Hi, hHi⟩ : ∃ Hi, D / 18446744073709551616 = Hi := ⟨_, rfl⟩
  obtain ⟨Lo, hLo⟩ : ∃ Lo, D % 18446744073709551616 = Lo := ⟨_, rfl⟩
  rw [hHi] at w2 hov
  rw [hLo] at w1
  have v0 : 0 ≤ Hi := by omega
  have v1 : Hi < 18446744073709551616 := by omega
  have v2 : 0 ≤ Lo := by omega
  have v3 : Lo < 18446744073709551616 := by omega
  have v4 : Hi * 18446744073709551616 + Lo = D := by omega
  have v5 : (Hi % T * 18446744073709551616 + Lo) % T = D % T := by
    rw [← v4, Int.add_emod, Int.mul_emod, Int.emod_emod_of_dvd Hi (Int.dvd_refl T), ← Int.mul_emod, ← Int.add_emod]
  obtain ⟨Q, hQ⟩ : ∃ Q, D / T = Q := ⟨_, rfl⟩
  obtain ⟨R, hR⟩ : ∃ R, D % T = R := ⟨_, rfl⟩
  rw [hR] at z1 z2 v5
  rw [hQ]
  rw [hR]
  have HS : Hid _ := hS
  have HM : Hid _ := hM
  have HN : Hid _ := hN
  have HD : Hid _ := hD
  have HG : Hid _ := hge
  have HV : Hid _ := v4
  have HV5 : Hid _ := v5
  have HQ : Hid _ := hQ
  have HR : Hid _ := hR
  clear hS hM hN hD m0 m1 n0 n1 hle hge v4 v5 hHi hLo x1 d0 hQ hR
  go_enter Yba.func9, Yba.ntmps9
  go_wp2_with fail
  go_region_held3 (fun w' => IdxS w.heap.size g w a s b t T recip l w') (first | exact idxS_draw HS.out | exact idxS_keep (by assumption) (by assumption))
    (first
      | (go_at_call 12; refine (sub_max M N b t a s _ HM.out HN.out t0 t1 s0 s1 (by rw [HD.out]; exact HG.out)).mono ?_; rintro e w' ⟨rfl, hb1⟩))
  have hF1 : IdxS w.heap.size g w a s b t T recip l w' := by assumption
  obtain ⟨wa, ha⟩ : ∃ wa, w' = wa := ⟨_, rfl⟩
  rw [ha] at hF1 ⊢
  have HF1 : Hid _ := hF1
  clear hF1 hb1
  go_wp2_with fail
  go_region_held3 (fun w' => IdxS w.heap.size g w a s b t T recip l w') (first | exact idxS_draw HF1.out | exact idxS_keep (by assumption) (by assumption))
    (first
      | (go_at_call_of 19 b; refine (unix_any b t _ b0 b1 t0 t1).mono ?_; rintro e w' ⟨rfl, hb2⟩)
      | (go_at_call_of 19 a; refine (unix_any a s _ a0 a1 s0 s1).mono ?_; rintro e w' ⟨rfl, hb3⟩))
  have hF2 : IdxS w.heap.size g w a s b t T recip l w' := by assumption
  obtain ⟨wb, hb⟩ : ∃ wb, w' = wb := ⟨_, rfl⟩
  rw [hb] at hF2 ⊢
  have HF2 : Hid _ := hF2
  clear hF2 hb2 hb3
  go_wp2_with fail
  refine (mul_any (t - s) 1000000000 _ u0 (by omega) (by decide) (by decide)).mono ?_
  rintro e w9 ⟨rfl, hw⟩
  obtain rfl := hw.symm
  clear hw
  go_wp2_with fail
  go_region_held3 (fun w' => IdxS w.heap.size g w a s b t T recip l w') (first | exact idxS_draw HF2.out | exact idxS_keep (by assumption) (by assumption))
    (first
      | (go_at_call_of 21 b; refine (nano_any b t _ b0 b1).mono ?_; rintro e w' ⟨rfl, hb4⟩)
      | (go_at_call_of 21 a; refine (nano_any a s _ a0 a1).mono ?_; rintro e w' ⟨rfl, hb5⟩))
  have hF3 : IdxS w.heap.size g w a s b t T recip l w' := by assumption
  obtain ⟨wc, hcw⟩ : ∃ wc, w' = wc := ⟨_, rfl⟩
  rw [hcw] at hF3 ⊢
  obtain ⟨f1, f2, f3, f4, f5, f6, f7, f8, f9, f10, f11, f12⟩ := hF3
  clear hb4 hb5
  go_wp2_with simp only [sub64_0 _ _ w3 w4 w5]
  refine (div_any Hi Lo T _ v0 hov (by omega) v2 v3).mono ?_
  rintro e w9 ⟨rfl, n, hw⟩
  obtain rfl := hw.symm
  clear hw
  rw [HV.out, HQ.out, HR.out]
  go_wp2
  go_ret3
  exact ⟨rfl, below_drewN f12 n⟩

set_option maxHeartbeats 1000000 in
theorem index_far_down_over (g : Nat) (M N a s b t T recip : Int) (l : Nat) (w : World) (h : Idx g M N a s b t T recip l w) (hge : 9223372036854775807 ≤ M - N) (hns : b - a < 0) (hov : T ≤ (M - N) / 18446744073709551616) :
    Calls Yba.prog 9 #[.pointer (some ⟨g, 0, none⟩), .agg #[.int .u64 b, .int .i64 t, .pointer none]] w fun e w' => e = .returned (.tuple #[.int .u64 0, .int .i64 ((M - N) % T), .bool false]) ∧ Below w.heap.size w w' := by
  have hS := idxS_start (b := b) (t := t) h.hg h.c0 h.c1 h.c2 h.c3 h.c4 h.c5
  obtain ⟨hM, hN, m0, m1, n0, n1, hle, _, T0, T1, hg, _, _, _, _, _, _⟩ := h
  obtain ⟨s0, s1⟩ := TM_sec hN (by omega) (by omega)
  obtain ⟨t0, t1⟩ := TM_sec hM (by omega) (by omega)
  have a0 := hN.1; have a1 := hN.2.1; have b0 := hM.1; have b1 := hM.2.1
  have u0 : 0 ≤ t - s := by
    have := hM.2.2; have := hN.2.2
    omega
  have r1 : IntKind.u64.wrap (IntKind.u64.wrap (t + -62135596800) - IntKind.u64.wrap (s + -62135596800)) = t - s := by
    rw [IntKind.wrap_u64, IntKind.wrap_u64, IntKind.wrap_u64]; omega
  obtain ⟨X, hX⟩ : ∃ X, (t - s) * 1000000000 = X := ⟨_, rfl⟩
  have x1 : M - N = X + (b - a) := by
    have := hM.2.2; have := hN.2.2
    omega
  have x0 : 0 ≤ X := by omega
  have x2 : X < 1000000000000000000000000000 := by omega
  obtain ⟨D, hD⟩ : ∃ D, M - N = D := ⟨_, rfl⟩
  have d0 : 0 ≤ D := by omega
  obtain ⟨c, hc⟩ : ∃ c, -(b - a) = c := ⟨_, rfl⟩
  have w3 : 0 ≤ X % 18446744073709551616 := by omega
  have w4 : 0 ≤ c := by omega
  have w5 : c < 18446744073709551616 := by omega
  have w1 : (X % 18446744073709551616 - c) % 18446744073709551616 = D % 18446744073709551616 := by omega
  have w2 : IntKind.u64.wrap (X / 18446744073709551616 - bor (X % 18446744073709551616) c) = D / 18446744073709551616 := borrow_words (by omega) w4 (by omega) d0 x2
  have x3 : X / 18446744073709551616 < 18446744073709551616 := by omega
  have z1 := Int.emod_nonneg D (show T ≠ 0 by omega)
  have z2 := Int.emod_lt_of_pos D (show 0 < T by omega)
  rw [hD] at hge hov ⊢
  obtain ⟨Hi, hHi⟩ : ∃ Hi, D / 18446744073709551616 = Hi := ⟨_, rfl⟩
  obtain ⟨Lo, hLo⟩ : ∃ Lo, D % 18446744073709551616 = Lo := ⟨_, rfl⟩
  rw [hHi] at w2 hov
  rw [hLo] at w1
  have v0 : 0 ≤ Hi := by omega
  have v1 : Hi < 18446744073709551616 := by omega
  have v2 : 0 ≤ Lo := by omega
  have v3 : Lo < 18446744073709551616 := by omega
  have v4 : Hi * 18446744073709551616 + Lo = D := by omega
  have v5 : (Hi % T * 18446744073709551616 + Lo) % T = D % T := by
    rw [← v4, Int.add_emod, Int.mul_emod, Int.emod_emod_of_dvd Hi (Int.dvd_refl T), ← Int.mul_emod, ← Int.add_emod]
  obtain ⟨Q, hQ⟩ : ∃ Q, D / T = Q := ⟨_, rfl⟩
  obtain ⟨R, hR⟩ : ∃ R, D % T = R := ⟨_, rfl⟩
  rw [hR] at z1 z2 v5
  rw [hR]
  have HS : Hid _ := hS
  have HM : Hid _ := hM
  have HN : Hid _ := hN
  have HD : Hid _ := hD
  have HG : Hid _ := hge
  have HV : Hid _ := v4
  have HV5 : Hid _ := v5
  have HQ : Hid _ := hQ
  have HR : Hid _ := hR
  clear hS hM hN hD m0 m1 n0 n1 hle hge v4 v5 hHi hLo x1 d0 hQ hR
  go_enter Yba.func9, Yba.ntmps9
  go_wp2_with fail
  go_region_held3 (fun w' => IdxS w.heap.size g w a s b t T recip l w') (first | exact idxS_draw HS.out | exact idxS_keep (by assumption) (by assumption))
    (first
      | (go_at_call 12; refine (sub_max M N b t a s _ HM.out HN.out t0 t1 s0 s1 (by rw [HD.out]; exact HG.out)).mono ?_; rintro e w' ⟨rfl, hb1⟩))
  have hF1 : IdxS w.heap.size g w a s b t T recip l w' := by assumption
  obtain ⟨wa, ha⟩ : ∃ wa, w' = wa := ⟨_, rfl⟩
  rw [ha] at hF1 ⊢
  have HF1 : Hid _ := hF1
  clear hF1 hb1
  go_wp2_with fail
  go_region_held3 (fun w' => IdxS w.heap.size g w a s b t T recip l w') (first | exact idxS_draw HF1.out | exact idxS_keep (by assumption) (by assumption))
    (first
      | (go_at_call_of 19 b; refine (unix_any b t _ b0 b1 t0 t1).mono ?_; rintro e w' ⟨rfl, hb2⟩)
      | (go_at_call_of 19 a; refine (unix_any a s _ a0 a1 s0 s1).mono ?_; rintro e w' ⟨rfl, hb3⟩))
  have hF2 : IdxS w.heap.size g w a s b t T recip l w' := by assumption
  obtain ⟨wb, hb⟩ : ∃ wb, w' = wb := ⟨_, rfl⟩
  rw [hb] at hF2 ⊢
  have HF2 : Hid _ := hF2
  clear hF2 hb2 hb3
  go_wp2_with fail
  refine (mul_any (t - s) 1000000000 _ u0 (by omega) (by decide) (by decide)).mono ?_
  rintro e w9 ⟨rfl, hw⟩
  obtain rfl := hw.symm
  clear hw
  go_wp2_with fail
  go_region_held3 (fun w' => IdxS w.heap.size g w a s b t T recip l w') (first | exact idxS_draw HF2.out | exact idxS_keep (by assumption) (by assumption))
    (first
      | (go_at_call_of 21 b; refine (nano_any b t _ b0 b1).mono ?_; rintro e w' ⟨rfl, hb4⟩)
      | (go_at_call_of 21 a; refine (nano_any a s _ a0 a1).mono ?_; rintro e w' ⟨rfl, hb5⟩))
  have hF3 : IdxS w.heap.size g w a s b t T recip l w' := by assumption
  obtain ⟨wc, hcw⟩ : ∃ wc, w' = wc := ⟨_, rfl⟩
  rw [hcw] at hF3 ⊢
  obtain ⟨f1, f2, f3, f4, f5, f6, f7, f8, f9, f10, f11, f12⟩ := hF3
  clear hb4 hb5
  go_wp2_with simp only [sub64_0 _ _ w3 w4 w5]
  refine (rem_any Hi Lo T _ v0 (by omega) (by omega) (by omega) v2 v3).mono ?_
  rintro e w9 ⟨rfl, n, hw⟩
  obtain rfl := hw.symm
  clear hw
  rw [HV5.out]
  go_wp2
  go_ret3
  exact ⟨rfl, below_drewN f12 n⟩

/-- The quotient fits a word. -/
theorem index_ok (g : Nat) (M N a s b t T recip : Int) (l : Nat) (w : World) (h : Idx g M N a s b t T recip l w) (hov : (M - N) / 18446744073709551616 < T) :
    Calls Yba.prog 9 #[.pointer (some ⟨g, 0, none⟩), .agg #[.int .u64 b, .int .i64 t, .pointer none]] w fun e w' => e = .returned (.tuple #[.int .u64 ((M - N) / T), .int .i64 ((M - N) % T), .bool true]) ∧ Below w.heap.size w w' := by
  by_cases h1 : M - N < 9223372036854775807
  · exact index_near g M N a s b t T recip l w h h1
  · by_cases h2 : 0 ≤ b - a
    · exact index_far_up g M N a s b t T recip l w h (by omega) h2 hov
    · exact index_far_down g M N a s b t T recip l w h (by omega) (by omega) hov

/-- It does not. -/
theorem index_over (g : Nat) (M N a s b t T recip : Int) (l : Nat) (w : World) (h : Idx g M N a s b t T recip l w) (hov : T ≤ (M - N) / 18446744073709551616) :
    Calls Yba.prog 9 #[.pointer (some ⟨g, 0, none⟩), .agg #[.int .u64 b, .int .i64 t, .pointer none]] w fun e w' => e = .returned (.tuple #[.int .u64 0, .int .i64 ((M - N) % T), .bool false]) ∧ Below w.heap.size w w' := by
  have hge : 9223372036854775807 ≤ M - N := by
    have := h.T0
    omega
  by_cases h2 : 0 ≤ b - a
  · exact index_far_up_over g M N a s b t T recip l w h hge h2 hov
  · exact index_far_down_over g M N a s b t T recip l w h hge (by omega) hov

end Go.Proofs.Ybulkcjtk

/-
  LawS4287CFar: the walk.
-/
import Derived.Test.YbulkcjtkNear
namespace Go.Proofs.Ybulkcjtk
open Go.RowKit

/-- The grid's cells. -/
abbrev gridCells (a s T recip : Int) (l : Nat) (fit : Bool) : Array Value := #[.int .u64 a, .int .i64 s, .pointer none, .int .i64 T, .int .u64 recip, .int .u64 (l : Nat), .bool fit]

/-- What stands in memory while the law runs: the grid (block g), the instant in its variable (block v). -/
structure FarS (w : World) (g v : Nat) (a s T recip : Int) (l : Nat) (fit : Bool) (b t : Int) (W : World) : Prop where
  grid : W.heap[g]? = some (.cells (gridCells a s T recip l fit) 30 (0, 0))
  inst : W.heap[v]? = some (.cells #[.int .u64 b, .int .i64 t, .pointer none] 27 (0, 0))
  bel : Below w.heap.size w W
  hg : w.heap.size ≤ g
  hv : w.heap.size ≤ v
  hne : g ≠ v

theorem lt_of_get {W : World} {g : Nat} {o : Obj} (h : W.heap[g]? = some o) : g < W.heap.size := (Array.getElem?_eq_some_iff.1 h).1

theorem FarS.next {w W X : World} {g v : Nat} {a s T recip b t : Int} {l : Nat} {fit : Bool} (h : FarS w g v a s T recip l fit b t W) (hb : Below W.heap.size W X) : FarS w g v a s T recip l fit b t X :=
  ⟨by rw [hb.block g (lt_of_get h.grid)]; exact h.grid, by rw [hb.block v (lt_of_get h.inst)]; exact h.inst, h.bel.trans (hb.mono h.bel.size), h.hg, h.hv, h.hne⟩

theorem FarS.set {w W : World} {g v : Nat} {a s T recip b t : Int} {l : Nat} {fit : Bool} (h : FarS w g v a s T recip l fit b t W) (b' t' : Int) :
    FarS w g v a s T recip l fit b' t' (((W.setCell ⟨v, 0, none⟩ (.int .u64 b')).setCell ⟨v, 1, none⟩ (.int .i64 t')).setCell ⟨v, 2, none⟩ (.pointer none)) := by
  have e1 := setCell_eq_setRow W v 0 _ 27 (0, 0) (.int .u64 b') h.inst
  have i1 := setRow_heap W v _ (#[.int .u64 b, .int .i64 t, .pointer none].setIfInBounds 0 (.int .u64 b')) 27 (0, 0) h.inst
  rw [← e1] at i1
  have e2 := setCell_eq_setRow _ v 1 _ 27 (0, 0) (.int .i64 t') i1
  have i2 := setRow_heap _ v _ ((#[.int .u64 b, .int .i64 t, .pointer none].setIfInBounds 0 (.int .u64 b')).setIfInBounds 1 (.int .i64 t')) 27 (0, 0) i1
  rw [← e2] at i2
  have e3 := setCell_eq_setRow _ v 2 _ 27 (0, 0) (.pointer none) i2
  have i3 := setRow_heap _ v _ (((#[.int .u64 b, .int .i64 t, .pointer none].setIfInBounds 0 (.int .u64 b')).setIfInBounds 1 (.int .i64 t')).setIfInBounds 2 (.pointer none)) 27 (0, 0) i2
  rw [← e3] at i3
  refine ⟨?_, ?_, ?_, h.hg, h.hv, h.hne⟩
  · rw [Below.heap_setCell _ _ _ _ h.hne, Below.heap_setCell _ _ _ _ h.hne, Below.heap_setCell _ _ _ _ h.hne]; exact h.grid
  · exact i3
  · exact ((h.bel.setCell (p := ⟨v, 0, none⟩) h.hv _).setCell (p := ⟨v, 1, none⟩) h.hv _).setCell (p := ⟨v, 2, none⟩) h.hv _

theorem FarS.idx {w W : World} {g v : Nat} {M N a s T recip b t : Int} {l : Nat} {fit : Bool} (h : FarS w g v a s T recip l fit b t W) (hM : TM M b t) (hN : TM N a s)
    (m0 : -100000000000000000000 ≤ M) (m1 : M ≤ 100000000000000000000) (n0 : -100000000000000000000 ≤ N) (n1 : N ≤ 100000000000000000000) (hle : N ≤ M) (rcp : Rcp T recip l) (T0 : 1 ≤ T) (T1 : T ≤ 9223372036854775807) : Idx g M N a s b t T recip l W := by
  have hc := (own_block h.grid).1
  refine ⟨hM, hN, m0, m1, n0, n1, hle, rcp, T0, T1, lt_of_get h.grid, ?_, ?_, ?_, ?_, ?_, ?_⟩ <;> (rw [hc]; rfl)

theorem FarS.cells {w W : World} {g v : Nat} {a s T recip b t : Int} {l : Nat} {fit : Bool} (h : FarS w g v a s T recip l fit b t W) :
    W.cell? ⟨v, 0, none⟩ = some (.int .u64 b) ∧ W.cell? ⟨v, 1, none⟩ = some (.int .i64 t) ∧ W.cell? ⟨v, 2, none⟩ = some (.pointer none) ∧ W.frozen? ⟨v, 0, none⟩ = false ∧ W.frozen? ⟨v, 1, none⟩ = false ∧ W.frozen? ⟨v, 2, none⟩ = false := by
  obtain ⟨hc, hf⟩ := own_block h.inst
  exact ⟨by rw [hc]; rfl, by rw [hc]; rfl, by rw [hc]; rfl, hf 0, hf 1, hf 2⟩

theorem farS_start {w w2 w4 : World} {a s T recip b t : Int} {l : Nat} {fit : Bool} (h12 : Below w.heap.size w w2)
    (hb : Below (w2.alloc (.cells (gridCells a s T recip l fit) 30)).heap.size (w2.alloc (.cells (gridCells a s T recip l fit) 30)) w4) :
    FarS w w2.heap.size w4.heap.size a s T recip l fit b t (w4.alloc (.cells #[.int .u64 b, .int .i64 t, .pointer none] 27)) := by
  have hs := hb.size
  have h0 : w2.heap.size < w4.heap.size := by simp at hs; omega
  have hbw : Below w.heap.size w w4 := h12.trans (((bal (Below.refl _ w2) _).trans (hb.mono (by simp))).mono h12.size)
  refine ⟨?_, heap_alloc_new w4 _, bal hbw _, h12.size, hbw.size, by omega⟩
  rw [Below.heap_alloc _ _ _ h0, hb.block _ (by simp)]
  exact heap_alloc_new w2 _

set_option maxHeartbeats 2000000 in
theorem far_11_any (o d1 d2 k : Int) (w : World) (o0 : -9223372036854775808 ≤ o) (o1 : o ≤ 9223372036854775807) (d10 : -9223372036854775808 ≤ d1) (d11 : d1 ≤ 9223372036854775807) (d20 : -9223372036854775808 ≤ d2) (d21 : d2 ≤ 9223372036854775807) (k0 : -9223372036854775808 ≤ k) (k1 : k ≤ 9223372036854775807) :
    Calls Yba.prog 4 #[.int .i64 o, .int .i64 d1, .int .i64 d2, .bool true, .bool true, .int .i64 k] w fun e w' => e = .returned (.bool true) ∧ Below w.heap.size w w' := by
  go_enter Yba.func4, Yba.ntmps4
  go_wp2_with fail
  refine (tick_any k _ k0 k1).mono ?_
  rintro e w1 ⟨T, rfl, T0, T1, hw⟩
  obtain rfl := hw.symm
  clear hw
  go_wp2_with fail
  refine (add_bel 0 0 0 o _ (by exact ⟨by decide, by decide, by decide⟩) (by decide) (by decide) o0 o1).mono ?_
  rintro e w1 ⟨a, s, rfl, hO, hb1⟩
  rw [Int.zero_add] at hO
  have HO : Hid _ := hO
  clear hO
  go_wp2_with fail
  refine (new_any o a s T _ HO.out (by omega) (by omega) T0 T1).mono ?_
  rintro e w2 ⟨recip, l, fit, rfl, hR, hb2⟩
  have HR : Hid _ := hR
  have hb12 : Below w.heap.size w w2 := hb1.trans (hb2.mono hb1.size)
  clear hR hb1 hb2
  obtain ⟨s0, s1⟩ := TM_sec HO.out (by omega) (by omega)
  go_wp2_with fail
  refine (nonneg_any d1 _ d10 d11).mono ?_
  rintro e w3 ⟨A, rfl, A0, A1, hw⟩
  obtain rfl := hw.symm
  clear hw
  go_wp2_with fail
  refine (nonneg_any d2 _ d20 d21).mono ?_
  rintro e w3 ⟨B, rfl, B0, B1, hw⟩
  obtain rfl := hw.symm
  clear hw
  go_wp2_with fail
  refine (add_bel o a s A _ HO.out s0 s1 (by omega) A1).mono ?_
  rintro e w4 ⟨b, t, rfl, hM, hb4⟩
  obtain ⟨t0, t1⟩ := TM_sec hM (by omega) (by omega)
  have HM : Hid _ := hM
  clear hM
  go_wp2_with fail
  refine (add_bel (o + A) b t B _ HM.out t0 t1 (by omega) B1).mono ?_
  rintro e w5 ⟨b2, t2, rfl, hM2, hb5⟩
  obtain ⟨u0, u1⟩ := TM_sec hM2 (by omega) (by omega)
  have HM2 : Hid _ := hM2
  clear hM2
  have hS := farS_start (b := b2) (t := t2) hb12 (hb4.trans (hb5.mono hb4.size))
  obtain ⟨g, hg⟩ : ∃ g, w2.heap.size = g := ⟨_, rfl⟩
  obtain ⟨v, hv⟩ : ∃ v, w5.heap.size = v := ⟨_, rfl⟩
  rw [hg, hv] at hS
  rw [hg]
  have HS : Hid _ := hS
  clear hS hb12 hb4 hb5
  go_wp2_with fail
  have p1 : (0 : Int) ≤ 9223372036854775807 := by decide
  refine (add_bel (o + A + B) b2 t2 9223372036854775807 _ HM2.out u0 u1 (by decide) (by decide)).mono ?_
  rintro e w7 ⟨b7, t7, rfl, hM7, hb7⟩
  obtain ⟨x70, x71⟩ := TM_sec hM7 (by omega) (by omega)
  have HM7 : Hid _ := hM7
  have hS7 := HS.out.next hb7
  obtain ⟨e70, e71, e72, z70, z71, z72⟩ := hS7.cells
  have HS7 : Hid _ := hS7.set b7 t7
  clear hM7 hb7 hS7 HS
  have p0 : 0 ≤ A + B := by omega
  go_wp2_with (simp only [add64_0 _ _ p0 p1])
  generalize hW7 : ((w7.setCell ⟨v, 0, none⟩ (.int .u64 b7)).setCell ⟨v, 1, none⟩ (.int .i64 t7)).setCell ⟨v, 2, none⟩ (.pointer none) = W7
  have hT7 := HS7.out
  rw [hW7] at hT7
  have HT7 : Hid _ := hT7
  clear hW7 hT7 HS7 e70 e71 e72 z70 z71 z72
  refine (add_bel (o + A + B + 9223372036854775807) b7 t7 9223372036854775807 _ HM7.out x70 x71 (by decide) (by decide)).mono ?_
  rintro e w8 ⟨b8, t8, rfl, hM8, hb8⟩
  obtain ⟨x80, x81⟩ := TM_sec hM8 (by omega) (by omega)
  have HM8 : Hid _ := hM8
  have hS8 := HT7.out.next hb8
  obtain ⟨e80, e81, e82, z80, z81, z82⟩ := hS8.cells
  have HS8 : Hid _ := hS8.set b8 t8
  clear hM8 hb8 hS8 HT7
  have p0 : 0 ≤ (A + B + 9223372036854775807) % 18446744073709551616 := by omega
  go_wp2_with (simp only [add64_0 _ _ p0 p1])
  generalize hW8 : ((w8.setCell ⟨v, 0, none⟩ (.int .u64 b8)).setCell ⟨v, 1, none⟩ (.int .i64 t8)).setCell ⟨v, 2, none⟩ (.pointer none) = W8
  have hT8 := HS8.out
  rw [hW8] at hT8
  have HT8 : Hid _ := hT8
  clear hW8 hT8 HS8 e80 e81 e82 z80 z81 z82
  obtain ⟨D, hD⟩ : ∃ D, A + B + 9223372036854775807 + 9223372036854775807 = D := ⟨_, rfl⟩
  obtain ⟨Hi, hHi⟩ : ∃ Hi, D / 18446744073709551616 = Hi := ⟨_, rfl⟩
  obtain ⟨Lo, hLo⟩ : ∃ Lo, D % 18446744073709551616 = Lo := ⟨_, rfl⟩
  have d0 : 0 ≤ D := by omega
  have d1 : D ≤ 36893488147419103228 := by omega
  have v0 : 0 ≤ Hi := by omega
  have v1 : Hi ≤ 1 := by omega
  have v2 : 0 ≤ Lo := by omega
  have v3 : Lo < 18446744073709551616 := by omega
  have v4 : Hi * 18446744073709551616 + Lo = D := by omega
  have v5 : (Hi % T * 18446744073709551616 + Lo) % T = D % T := by
    rw [← v4, Int.add_emod, Int.mul_emod, Int.emod_emod_of_dvd Hi (Int.dvd_refl T), ← Int.mul_emod, ← Int.add_emod]
  have e1 : o + A + B + 9223372036854775807 + 9223372036854775807 - o = D := by omega
  have q2 := Int.emod_nonneg D (show T ≠ 0 by omega)
  have q3 := Int.emod_lt_of_pos D (show 0 < T by omega)
  have hI := HT8.out.idx HM8.out HO.out (by omega) (by omega) (by omega) (by omega) (by omega) HR.out T0 T1
  have hbw := HT8.out.bel
  have rLo : (A + B + 9223372036854775807 + 9223372036854775807) % 18446744073709551616 = Lo := by rw [hD]; exact hLo
  have rHi : (A + B + 9223372036854775807) / 18446744073709551616 + ((A + B + 9223372036854775807) % 18446744073709551616 + 9223372036854775807) / 18446744073709551616 = Hi := by omega
  obtain ⟨K, hK⟩ : ∃ K, D / T = K := ⟨_, rfl⟩
  obtain ⟨R, hR⟩ : ∃ R, D % T = R := ⟨_, rfl⟩
  rw [hR] at v5 q2 q3
  have HI : Hid _ := hI
  have HB : Hid _ := hbw
  have E1 : Hid _ := e1
  have V4 : Hid _ := v4
  have V5 : Hid _ := v5
  have HK : Hid _ := hK
  have HRR : Hid _ := hR
  have HHi : Hid _ := hHi
  clear hD hHi hLo v4 v5 e1 hK hR hI hbw HT8 HM8
  by_cases hov : T ≤ Hi
  · refine (index_over g (o + A + B + 9223372036854775807 + 9223372036854775807) o a s b8 t8 T recip l _ HI.out (by rw [E1.out, HHi.out]; omega)).mono ?_
    rw [E1.out, HRR.out]
    rintro e w20 ⟨rfl, hb20⟩
    have hfin := HB.out.trans (hb20.mono HB.out.size)
    clear hb20
    have y0 := Int.emod_nonneg Hi (show T ≠ 0 by omega)
    have y1 := Int.emod_lt_of_pos Hi (show 0 < T by omega)
    go_wp2_with fail
    refine (div_any (Hi % T) Lo T _ y0 y1 (by omega) v2 v3).mono ?_
    rintro e w21 ⟨rfl, n, hw⟩
    obtain rfl := hw.symm
    clear hw
    rw [V5.out]
    go_wp2
    go_ret
    exact ⟨rfl, below_drewN hfin n⟩
  · refine (index_ok g (o + A + B + 9223372036854775807 + 9223372036854775807) o a s b8 t8 T recip l _ HI.out (by rw [E1.out, HHi.out]; omega)).mono ?_
    rw [E1.out, HK.out, HRR.out]
    rintro e w20 ⟨rfl, hb20⟩
    have hfin := HB.out.trans (hb20.mono HB.out.size)
    clear hb20
    go_wp2_with fail
    refine (div_any Hi Lo T _ v0 (by omega) (by omega) v2 v3).mono ?_
    rintro e w21 ⟨rfl, n, hw⟩
    obtain rfl := hw.symm
    clear hw
    rw [V4.out, HK.out, HRR.out]
    go_wp2
    go_ret
    exact ⟨rfl, below_drewN hfin n⟩

set_option maxHeartbeats 2000000 in
theorem far_10_any (o d1 d2 k : Int) (w : World) (o0 : -9223372036854775808 ≤ o) (o1 : o ≤ 9223372036854775807) (d10 : -9223372036854775808 ≤ d1) (d11 : d1 ≤ 9223372036854775807) (d20 : -9223372036854775808 ≤ d2) (d21 : d2 ≤ 9223372036854775807) (k0 : -9223372036854775808 ≤ k) (k1 : k ≤ 9223372036854775807) :
    Calls Yba.prog 4 #[.int .i64 o, .int .i64 d1, .int .i64 d2, .bool true, .bool false, .int .i64 k] w fun e w' => e = .returned (.bool true) ∧ Below w.heap.size w w' := by
  go_enter Yba.func4, Yba.ntmps4
  go_wp2_with fail
  refine (tick_any k _ k0 k1).mono ?_
  rintro e w1 ⟨T, rfl, T0, T1, hw⟩
  obtain rfl := hw.symm
  clear hw
  go_wp2_with fail
  refine (add_bel 0 0 0 o _ (by exact ⟨by decide, by decide, by decide⟩) (by decide) (by decide) o0 o1).mono ?_
  rintro e w1 ⟨a, s, rfl, hO, hb1⟩
  rw [Int.zero_add] at hO
  have HO : Hid _ := hO
  clear hO
  go_wp2_with fail
  refine (new_any o a s T _ HO.out (by omega) (by omega) T0 T1).mono ?_
  rintro e w2 ⟨recip, l, fit, rfl, hR, hb2⟩
  have HR : Hid _ := hR
  have hb12 : Below w.heap.size w w2 := hb1.trans (hb2.mono hb1.size)
  clear hR hb1 hb2
  obtain ⟨s0, s1⟩ := TM_sec HO.out (by omega) (by omega)
  go_wp2_with fail
  refine (nonneg_any d1 _ d10 d11).mono ?_
  rintro e w3 ⟨A, rfl, A0, A1, hw⟩
  obtain rfl := hw.symm
  clear hw
  go_wp2_with fail
  refine (nonneg_any d2 _ d20 d21).mono ?_
  rintro e w3 ⟨B, rfl, B0, B1, hw⟩
  obtain rfl := hw.symm
  clear hw
  go_wp2_with fail
  refine (add_bel o a s A _ HO.out s0 s1 (by omega) A1).mono ?_
  rintro e w4 ⟨b, t, rfl, hM, hb4⟩
  obtain ⟨t0, t1⟩ := TM_sec hM (by omega) (by omega)
  have HM : Hid _ := hM
  clear hM
  go_wp2_with fail
  refine (add_bel (o + A) b t B _ HM.out t0 t1 (by omega) B1).mono ?_
  rintro e w5 ⟨b2, t2, rfl, hM2, hb5⟩
  obtain ⟨u0, u1⟩ := TM_sec hM2 (by omega) (by omega)
  have HM2 : Hid _ := hM2
  clear hM2
  have hS := farS_start (b := b2) (t := t2) hb12 (hb4.trans (hb5.mono hb4.size))
  obtain ⟨g, hg⟩ : ∃ g, w2.heap.size = g := ⟨_, rfl⟩
  obtain ⟨v, hv⟩ : ∃ v, w5.heap.size = v := ⟨_, rfl⟩
  rw [hg, hv] at hS
  rw [hg]
  have HS : Hid _ := hS
  clear hS hb12 hb4 hb5
  go_wp2_with fail
  have p1 : (0 : Int) ≤ 9223372036854775807 := by decide
  refine (add_bel (o + A + B) b2 t2 9223372036854775807 _ HM2.out u0 u1 (by decide) (by decide)).mono ?_
  rintro e w7 ⟨b7, t7, rfl, hM7, hb7⟩
  obtain ⟨x70, x71⟩ := TM_sec hM7 (by omega) (by omega)
  have HM7 : Hid _ := hM7
  have hS7 := HS.out.next hb7
  obtain ⟨e70, e71, e72, z70, z71, z72⟩ := hS7.cells
  have HS7 : Hid _ := hS7.set b7 t7
  clear hM7 hb7 hS7 HS
  have p0 : 0 ≤ A + B := by omega
  go_wp2_with (simp only [add64_0 _ _ p0 p1])
  generalize hW7 : ((w7.setCell ⟨v, 0, none⟩ (.int .u64 b7)).setCell ⟨v, 1, none⟩ (.int .i64 t7)).setCell ⟨v, 2, none⟩ (.pointer none) = W7
  have hT7 := HS7.out
  rw [hW7] at hT7
  have HT7 : Hid _ := hT7
  clear hW7 hT7 HS7 e70 e71 e72 z70 z71 z72
  obtain ⟨D, hD⟩ : ∃ D, A + B + 9223372036854775807 = D := ⟨_, rfl⟩
  obtain ⟨Hi, hHi⟩ : ∃ Hi, D / 18446744073709551616 = Hi := ⟨_, rfl⟩
  obtain ⟨Lo, hLo⟩ : ∃ Lo, D % 18446744073709551616 = Lo := ⟨_, rfl⟩
  have d0 : 0 ≤ D := by omega
  have d1 : D ≤ 36893488147419103228 := by omega
  have v0 : 0 ≤ Hi := by omega
  have v1 : Hi ≤ 1 := by omega
  have v2 : 0 ≤ Lo := by omega
  have v3 : Lo < 18446744073709551616 := by omega
  have v4 : Hi * 18446744073709551616 + Lo = D := by omega
  have v5 : (Hi % T * 18446744073709551616 + Lo) % T = D % T := by
    rw [← v4, Int.add_emod, Int.mul_emod, Int.emod_emod_of_dvd Hi (Int.dvd_refl T), ← Int.mul_emod, ← Int.add_emod]
  have e1 : o + A + B + 9223372036854775807 - o = D := by omega
  have q2 := Int.emod_nonneg D (show T ≠ 0 by omega)
  have q3 := Int.emod_lt_of_pos D (show 0 < T by omega)
  have hI := HT7.out.idx HM7.out HO.out (by omega) (by omega) (by omega) (by omega) (by omega) HR.out T0 T1
  have hbw := HT7.out.bel
  have rLo : (A + B + 9223372036854775807) % 18446744073709551616 = Lo := by rw [hD]; exact hLo
  have rHi : (A + B + 9223372036854775807) / 18446744073709551616 = Hi := by rw [hD]; exact hHi
  obtain ⟨K, hK⟩ : ∃ K, D / T = K := ⟨_, rfl⟩
  obtain ⟨R, hR⟩ : ∃ R, D % T = R := ⟨_, rfl⟩
  rw [hR] at v5 q2 q3
  have HI : Hid _ := hI
  have HB : Hid _ := hbw
  have E1 : Hid _ := e1
  have V4 : Hid _ := v4
  have V5 : Hid _ := v5
  have HK : Hid _ := hK
  have HRR : Hid _ := hR
  have HHi : Hid _ := hHi
  clear hD hHi hLo v4 v5 e1 hK hR hI hbw HT7 HM7
  by_cases hov : T ≤ Hi
  · refine (index_over g (o + A + B + 9223372036854775807) o a s b7 t7 T recip l _ HI.out (by rw [E1.out, HHi.out]; omega)).mono ?_
    rw [E1.out, HRR.out]
    rintro e w20 ⟨rfl, hb20⟩
    have hfin := HB.out.trans (hb20.mono HB.out.size)
    clear hb20
    have y0 := Int.emod_nonneg Hi (show T ≠ 0 by omega)
    have y1 := Int.emod_lt_of_pos Hi (show 0 < T by omega)
    go_wp2_with fail
    refine (div_any (Hi % T) Lo T _ y0 y1 (by omega) v2 v3).mono ?_
    rintro e w21 ⟨rfl, n, hw⟩
    obtain rfl := hw.symm
    clear hw
    rw [V5.out]
    go_wp2
    go_ret
    exact ⟨rfl, below_drewN hfin n⟩
  · refine (index_ok g (o + A + B + 9223372036854775807) o a s b7 t7 T recip l _ HI.out (by rw [E1.out, HHi.out]; omega)).mono ?_
    rw [E1.out, HK.out, HRR.out]
    rintro e w20 ⟨rfl, hb20⟩
    have hfin := HB.out.trans (hb20.mono HB.out.size)
    clear hb20
    go_wp2_with fail
    refine (div_any Hi Lo T _ v0 (by omega) (by omega) v2 v3).mono ?_
    rintro e w21 ⟨rfl, n, hw⟩
    obtain rfl := hw.symm
    clear hw
    rw [V4.out, HK.out, HRR.out]
    go_wp2
    go_ret
    exact ⟨rfl, below_drewN hfin n⟩

set_option maxHeartbeats 2000000 in
theorem far_01_any (o d1 d2 k : Int) (w : World) (o0 : -9223372036854775808 ≤ o) (o1 : o ≤ 9223372036854775807) (d10 : -9223372036854775808 ≤ d1) (d11 : d1 ≤ 9223372036854775807) (d20 : -9223372036854775808 ≤ d2) (d21 : d2 ≤ 9223372036854775807) (k0 : -9223372036854775808 ≤ k) (k1 : k ≤ 9223372036854775807) :
    Calls Yba.prog 4 #[.int .i64 o, .int .i64 d1, .int .i64 d2, .bool false, .bool true, .int .i64 k] w fun e w' => e = .returned (.bool true) ∧ Below w.heap.size w w' := by
  go_enter Yba.func4, Yba.ntmps4
  go_wp2_with fail
  refine (tick_any k _ k0 k1).mono ?_
  rintro e w1 ⟨T, rfl, T0, T1, hw⟩
  obtain rfl := hw.symm
  clear hw
  go_wp2_with fail
  refine (add_bel 0 0 0 o _ (by exact ⟨by decide, by decide, by decide⟩) (by decide) (by decide) o0 o1).mono ?_
  rintro e w1 ⟨a, s, rfl, hO, hb1⟩
  rw [Int.zero_add] at hO
  have HO : Hid _ := hO
  clear hO
  go_wp2_with fail
  refine (new_any o a s T _ HO.out (by omega) (by omega) T0 T1).mono ?_
  rintro e w2 ⟨recip, l, fit, rfl, hR, hb2⟩
  have HR : Hid _ := hR
  have hb12 : Below w.heap.size w w2 := hb1.trans (hb2.mono hb1.size)
  clear hR hb1 hb2
  obtain ⟨s0, s1⟩ := TM_sec HO.out (by omega) (by omega)
  go_wp2_with fail
  refine (nonneg_any d1 _ d10 d11).mono ?_
  rintro e w3 ⟨A, rfl, A0, A1, hw⟩
  obtain rfl := hw.symm
  clear hw
  go_wp2_with fail
  refine (nonneg_any d2 _ d20 d21).mono ?_
  rintro e w3 ⟨B, rfl, B0, B1, hw⟩
  obtain rfl := hw.symm
  clear hw
  go_wp2_with fail
  refine (add_bel o a s A _ HO.out s0 s1 (by omega) A1).mono ?_
  rintro e w4 ⟨b, t, rfl, hM, hb4⟩
  obtain ⟨t0, t1⟩ := TM_sec hM (by omega) (by omega)
  have HM : Hid _ := hM
  clear hM
  go_wp2_with fail
  refine (add_bel (o + A) b t B _ HM.out t0 t1 (by omega) B1).mono ?_
  rintro e w5 ⟨b2, t2, rfl, hM2, hb5⟩
  obtain ⟨u0, u1⟩ := TM_sec hM2 (by omega) (by omega)
  have HM2 : Hid _ := hM2
  clear hM2
  have hS := farS_start (b := b2) (t := t2) hb12 (hb4.trans (hb5.mono hb4.size))
  obtain ⟨g, hg⟩ : ∃ g, w2.heap.size = g := ⟨_, rfl⟩
  obtain ⟨v, hv⟩ : ∃ v, w5.heap.size = v := ⟨_, rfl⟩
  rw [hg, hv] at hS
  rw [hg]
  have HS : Hid _ := hS
  clear hS hb12 hb4 hb5
  go_wp2_with fail
  have p1 : (0 : Int) ≤ 9223372036854775807 := by decide
  refine (add_bel (o + A + B) b2 t2 9223372036854775807 _ HM2.out u0 u1 (by decide) (by decide)).mono ?_
  rintro e w7 ⟨b7, t7, rfl, hM7, hb7⟩
  obtain ⟨x70, x71⟩ := TM_sec hM7 (by omega) (by omega)
  have HM7 : Hid _ := hM7
  have hS7 := HS.out.next hb7
  obtain ⟨e70, e71, e72, z70, z71, z72⟩ := hS7.cells
  have HS7 : Hid _ := hS7.set b7 t7
  clear hM7 hb7 hS7 HS
  have p0 : 0 ≤ A + B := by omega
  go_wp2_with (simp only [add64_0 _ _ p0 p1])
  generalize hW7 : ((w7.setCell ⟨v, 0, none⟩ (.int .u64 b7)).setCell ⟨v, 1, none⟩ (.int .i64 t7)).setCell ⟨v, 2, none⟩ (.pointer none) = W7
  have hT7 := HS7.out
  rw [hW7] at hT7
  have HT7 : Hid _ := hT7
  clear hW7 hT7 HS7 e70 e71 e72 z70 z71 z72
  obtain ⟨D, hD⟩ : ∃ D, A + B + 9223372036854775807 = D := ⟨_, rfl⟩
  obtain ⟨Hi, hHi⟩ : ∃ Hi, D / 18446744073709551616 = Hi := ⟨_, rfl⟩
  obtain ⟨Lo, hLo⟩ : ∃ Lo, D % 18446744073709551616 = Lo := ⟨_, rfl⟩
  have d0 : 0 ≤ D := by omega
  have d1 : D ≤ 36893488147419103228 := by omega
  have v0 : 0 ≤ Hi := by omega
  have v1 : Hi ≤ 1 := by omega
  have v2 : 0 ≤ Lo := by omega
  have v3 : Lo < 18446744073709551616 := by omega
  have v4 : Hi * 18446744073709551616 + Lo = D := by omega
  have v5 : (Hi % T * 18446744073709551616 + Lo) % T = D % T := by
    rw [← v4, Int.add_emod, Int.mul_emod, Int.emod_emod_of_dvd Hi (Int.dvd_refl T), ← Int.mul_emod, ← Int.add_emod]
  have e1 : o + A + B + 9223372036854775807 - o = D := by omega
  have q2 := Int.emod_nonneg D (show T ≠ 0 by omega)
  have q3 := Int.emod_lt_of_pos D (show 0 < T by omega)
  have hI := HT7.out.idx HM7.out HO.out (by omega) (by omega) (by omega) (by omega) (by omega) HR.out T0 T1
  have hbw := HT7.out.bel
  have rLo : (A + B + 9223372036854775807) % 18446744073709551616 = Lo := by rw [hD]; exact hLo
  have rHi : (A + B + 9223372036854775807) / 18446744073709551616 = Hi := by rw [hD]; exact hHi
  obtain ⟨K, hK⟩ : ∃ K, D / T = K := ⟨_, rfl⟩
  obtain ⟨R, hR⟩ : ∃ R, D % T = R := ⟨_, rfl⟩
  rw [hR] at v5 q2 q3
  have HI : Hid _ := hI
  have HB : Hid _ := hbw
  have E1 : Hid _ := e1
  have V4 : Hid _ := v4
  have V5 : Hid _ := v5
  have HK : Hid _ := hK
  have HRR : Hid _ := hR
  have HHi : Hid _ := hHi
  clear hD hHi hLo v4 v5 e1 hK hR hI hbw HT7 HM7
  by_cases hov : T ≤ Hi
  · refine (index_over g (o + A + B + 9223372036854775807) o a s b7 t7 T recip l _ HI.out (by rw [E1.out, HHi.out]; omega)).mono ?_
    rw [E1.out, HRR.out]
    rintro e w20 ⟨rfl, hb20⟩
    have hfin := HB.out.trans (hb20.mono HB.out.size)
    clear hb20
    have y0 := Int.emod_nonneg Hi (show T ≠ 0 by omega)
    have y1 := Int.emod_lt_of_pos Hi (show 0 < T by omega)
    go_wp2_with fail
    refine (div_any (Hi % T) Lo T _ y0 y1 (by omega) v2 v3).mono ?_
    rintro e w21 ⟨rfl, n, hw⟩
    obtain rfl := hw.symm
    clear hw
    rw [V5.out]
    go_wp2
    go_ret
    exact ⟨rfl, below_drewN hfin n⟩
  · refine (index_ok g (o + A + B + 9223372036854775807) o a s b7 t7 T recip l _ HI.out (by rw [E1.out, HHi.out]; omega)).mono ?_
    rw [E1.out, HK.out, HRR.out]
    rintro e w20 ⟨rfl, hb20⟩
    have hfin := HB.out.trans (hb20.mono HB.out.size)
    clear hb20
    go_wp2_with fail
    refine (div_any Hi Lo T _ v0 (by omega) (by omega) v2 v3).mono ?_
    rintro e w21 ⟨rfl, n, hw⟩
    obtain rfl := hw.symm
    clear hw
    rw [V4.out, HK.out, HRR.out]
    go_wp2
    go_ret
    exact ⟨rfl, below_drewN hfin n⟩

set_option maxHeartbeats 2000000 in
theorem far_00_any (o d1 d2 k : Int) (w : World) (o0 : -9223372036854775808 ≤ o) (o1 : o ≤ 9223372036854775807) (d10 : -9223372036854775808 ≤ d1) (d11 : d1 ≤ 9223372036854775807) (d20 : -9223372036854775808 ≤ d2) (d21 : d2 ≤ 9223372036854775807) (k0 : -9223372036854775808 ≤ k) (k1 : k ≤ 9223372036854775807) :
    Calls Yba.prog 4 #[.int .i64 o, .int .i64 d1, .int .i64 d2, .bool false, .bool false, .int .i64 k] w fun e w' => e = .returned (.bool true) ∧ Below w.heap.size w w' := by
  go_enter Yba.func4, Yba.ntmps4
  go_wp2_with fail
  refine (tick_any k _ k0 k1).mono ?_
  rintro e w1 ⟨T, rfl, T0, T1, hw⟩
  obtain rfl := hw.symm
  clear hw
  go_wp2_with fail
  refine (add_bel 0 0 0 o _ (by exact ⟨by decide, by decide, by decide⟩) (by decide) (by decide) o0 o1).mono ?_
  rintro e w1 ⟨a, s, rfl, hO, hb1⟩
  rw [Int.zero_add] at hO
  have HO : Hid _ := hO
  clear hO
  go_wp2_with fail
  refine (new_any o a s T _ HO.out (by omega) (by omega) T0 T1).mono ?_
  rintro e w2 ⟨recip, l, fit, rfl, hR, hb2⟩
  have HR : Hid _ := hR
  have hb12 : Below w.heap.size w w2 := hb1.trans (hb2.mono hb1.size)
  clear hR hb1 hb2
  obtain ⟨s0, s1⟩ := TM_sec HO.out (by omega) (by omega)
  go_wp2_with fail
  refine (nonneg_any d1 _ d10 d11).mono ?_
  rintro e w3 ⟨A, rfl, A0, A1, hw⟩
  obtain rfl := hw.symm
  clear hw
  go_wp2_with fail
  refine (nonneg_any d2 _ d20 d21).mono ?_
  rintro e w3 ⟨B, rfl, B0, B1, hw⟩
  obtain rfl := hw.symm
  clear hw
  go_wp2_with fail
  refine (add_bel o a s A _ HO.out s0 s1 (by omega) A1).mono ?_
  rintro e w4 ⟨b, t, rfl, hM, hb4⟩
  obtain ⟨t0, t1⟩ := TM_sec hM (by omega) (by omega)
  have HM : Hid _ := hM
  clear hM
  go_wp2_with fail
  refine (add_bel (o + A) b t B _ HM.out t0 t1 (by omega) B1).mono ?_
  rintro e w5 ⟨b2, t2, rfl, hM2, hb5⟩
  obtain ⟨u0, u1⟩ := TM_sec hM2 (by omega) (by omega)
  have HM2 : Hid _ := hM2
  clear hM2
  have hS := farS_start (b := b2) (t := t2) hb12 (hb4.trans (hb5.mono hb4.size))
  obtain ⟨g, hg⟩ : ∃ g, w2.heap.size = g := ⟨_, rfl⟩
  obtain ⟨v, hv⟩ : ∃ v, w5.heap.size = v := ⟨_, rfl⟩
  rw [hg, hv] at hS
  rw [hg]
  have HS : Hid _ := hS
  clear hS hb12 hb4 hb5
  go_wp2_with fail
  obtain ⟨D, hD⟩ : ∃ D, A + B = D := ⟨_, rfl⟩
  obtain ⟨Hi, hHi⟩ : ∃ Hi, D / 18446744073709551616 = Hi := ⟨_, rfl⟩
  obtain ⟨Lo, hLo⟩ : ∃ Lo, D % 18446744073709551616 = Lo := ⟨_, rfl⟩
  have d0 : 0 ≤ D := by omega
  have d1 : D ≤ 36893488147419103228 := by omega
  have v0 : 0 ≤ Hi := by omega
  have v1 : Hi ≤ 1 := by omega
  have v2 : 0 ≤ Lo := by omega
  have v3 : Lo < 18446744073709551616 := by omega
  have v4 : Hi * 18446744073709551616 + Lo = D := by omega
  have v5 : (Hi % T * 18446744073709551616 + Lo) % T = D % T := by
    rw [← v4, Int.add_emod, Int.mul_emod, Int.emod_emod_of_dvd Hi (Int.dvd_refl T), ← Int.mul_emod, ← Int.add_emod]
  have e1 : o + A + B - o = D := by omega
  have q2 := Int.emod_nonneg D (show T ≠ 0 by omega)
  have q3 := Int.emod_lt_of_pos D (show 0 < T by omega)
  have hI := HS.out.idx HM2.out HO.out (by omega) (by omega) (by omega) (by omega) (by omega) HR.out T0 T1
  have hbw := HS.out.bel
  have rLo : A + B = Lo := by omega
  have rHi : Hi = 0 := by omega
  obtain ⟨K, hK⟩ : ∃ K, D / T = K := ⟨_, rfl⟩
  obtain ⟨R, hR⟩ : ∃ R, D % T = R := ⟨_, rfl⟩
  rw [hR] at v5 q2 q3
  have HI : Hid _ := hI
  have HB : Hid _ := hbw
  have E1 : Hid _ := e1
  have V4 : Hid _ := v4
  have V5 : Hid _ := v5
  have HK : Hid _ := hK
  have HRR : Hid _ := hR
  have HHi : Hid _ := hHi
  clear hD hHi hLo v4 v5 e1 hK hR hI hbw HS HM2
  have RHI : Hid _ := rHi
  clear rHi
  refine (index_ok g (o + A + B) o a s b2 t2 T recip l _ HI.out (by rw [E1.out, HHi.out, RHI.out]; omega)).mono ?_
  rw [E1.out, HK.out, HRR.out]
  rintro e w20 ⟨rfl, hb20⟩
  have hfin := HB.out.trans (hb20.mono HB.out.size)
  clear hb20
  go_wp2_with fail
  refine (div_any 0 Lo T _ (by decide) (by omega) (by omega) v2 v3).mono ?_
  rintro e w21 ⟨rfl, n, hw⟩
  obtain rfl := hw.symm
  clear hw
  rw [show 0 * 18446744073709551616 + Lo = D by have h1 := V4.out; have h2 := RHI.out; omega, HK.out, HRR.out]
  go_wp2
  go_ret
  exact ⟨rfl, below_drewN hfin n⟩

theorem far_walk (o d1 d2 : Int) (f1 f2 : Bool) (k : Int) (w : World) (o0 : -9223372036854775808 ≤ o) (o1 : o ≤ 9223372036854775807) (d10 : -9223372036854775808 ≤ d1) (d11 : d1 ≤ 9223372036854775807) (d20 : -9223372036854775808 ≤ d2) (d21 : d2 ≤ 9223372036854775807) (k0 : -9223372036854775808 ≤ k) (k1 : k ≤ 9223372036854775807) :
    Calls Yba.prog 4 #[.int .i64 o, .int .i64 d1, .int .i64 d2, .bool f1, .bool f2, .int .i64 k] w fun e w' => e = .returned (.bool true) ∧ Below w.heap.size w w' := by
  cases f1
  · cases f2
    · exact far_00_any o d1 d2 k w o0 o1 d10 d11 d20 d21 k0 k1
    · exact far_01_any o d1 d2 k w o0 o1 d10 d11 d20 d21 k0 k1
  · cases f2
    · exact far_10_any o d1 d2 k w o0 o1 d10 d11 d20 d21 k0 k1
    · exact far_11_any o d1 d2 k w o0 o1 d10 d11 d20 d21 k0 k1

end Go.Proofs.Ybulkcjtk

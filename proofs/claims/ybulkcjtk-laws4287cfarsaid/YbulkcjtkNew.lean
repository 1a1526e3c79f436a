/-
  grid.New.
-/
import Derived.Test.YbulkcjtkSub2
import Derived.Test.YbulkcjtkDivWalk
import Derived.WalkSmall
namespace Go.Proofs.Ybulkcjtk
open Go.RowKit

theorem sub_eq (M N D a s b t : Int) (w : World) (hM : TM M a s) (hN : TM N b t) (s0 : -1000000000000000000 ≤ s) (s1 : s ≤ 1000000000000000000) (t0 : -1000000000000000000 ≤ t) (t1 : t ≤ 1000000000000000000)
    (hD : M - N = D) (h0 : 0 ≤ D) (h1 : D ≤ 9223372036854775807) :
    Calls Yba.prog 12 #[.agg #[.int .u64 a, .int .i64 s, .pointer none], .agg #[.int .u64 b, .int .i64 t, .pointer none]] w fun e w' => e = .returned (.int .i64 D) ∧ Below w.heap.size w w' := by
  subst hD
  exact sub_fit M N a s b t w hM hN s0 s1 t0 t1 (by omega) h1

theorem add_bel (N ns sec d : Int) (w : World) (hN : TM N ns sec) (h2 : -1000000000000000000 ≤ sec) (h3 : sec ≤ 1000000000000000000) (d0 : -9223372036854775808 ≤ d) (d1 : d ≤ 9223372036854775807) :
    Calls Yba.prog 7 #[.agg #[.int .u64 ns, .int .i64 sec, .pointer none], .int .i64 d] w fun e w' => ∃ ns' sec', e = .returned (.agg #[.int .u64 ns', .int .i64 sec', .pointer none]) ∧ TM (N + d) ns' sec' ∧ Below w.heap.size w w' :=
  (add_any N ns sec d w hN h2 h3 d0 d1).mono fun e w' ⟨a, b, p, q, c1, c2, r⟩ => ⟨a, b, p, q, by subst r; exact bal (bal (Below.refl _ _) _) _⟩

/-- The seconds of a time that lies less than 10^27 nanoseconds from the year 1. -/
theorem TM_sec {N ns sec : Int} (h : TM N ns sec) (h0 : -900000000000000000000000000 ≤ N) (h1 : N ≤ 900000000000000000000000000) : -1000000000000000000 ≤ sec ∧ sec ≤ 1000000000000000000 := by
  obtain ⟨a, b, c⟩ := h
  omega

/-- What New lays by for split. -/
def Rcp (T recip : Int) (l : Nat) : Prop := l ≤ 63 ∧ 0 ≤ recip ∧ recip < 18446744073709551616 ∧ 2 ^ l * 9223372036854775808 ≤ recip * T ∧ recip * T < 2 ^ l * 9223372036854775808 + T ∧ T ≤ 2 ^ l

/-- The logarithm of the tick. -/
theorem log_tick (T : Int) (T0 : 1 ≤ T) (T1 : T ≤ 9223372036854775807) : ∃ l : Nat, (Lib.bitLen (T - 1).toNat : Int) = (l : Int) ∧ l ≤ 63 ∧ T ≤ 2 ^ l ∧ (2 : Int) ^ l / 2 < T ∧ (2 : Int) ^ l ≤ 9223372036854775808 ∧ (0 : Int) < 2 ^ l := by
  obtain ⟨n, hn⟩ := Int.eq_ofNat_of_zero_le (show 0 ≤ T - 1 by omega)
  rw [hn, Int.toNat_natCast]
  refine ⟨Lib.bitLen n, rfl, ?_⟩
  by_cases h : n = 0
  · subst h
    have e : Lib.bitLen 0 = 0 := Lib.bitLenAux_zero 64
    rw [e]
    simp
    omega
  · have hb := Lib.bitLenAux_bounds 64 n (by omega) h
    have hd : Lib.bitLen n = Lib.bitLenAux 64 n := rfl
    rw [← hd] at hb
    have hle := Lib.bitLen_le n 63 (by omega) (by omega)
    generalize Lib.bitLen n = k at hb hle
    obtain ⟨k1, k2, k3⟩ := hb
    have e1 : (2 : Int) ^ k = 2 * 2 ^ (k - 1) := by
      rw [show k = (k - 1) + 1 by omega, Int.pow_succ]
      rw [show k - 1 + 1 - 1 = k - 1 by omega]
      omega
    have e2 : (2 : Int) ^ k = ((2 ^ k : Nat) : Int) := (two_pow_int k).symm
    have e3 : (2 : Int) ^ (k - 1) = ((2 ^ (k - 1) : Nat) : Int) := (two_pow_int (k - 1)).symm
    have e4 : (2 : Nat) ^ k ≤ 2 ^ 63 := Nat.pow_le_pow_right (by decide) hle
    have e5 : (2 : Nat) ^ 63 = 9223372036854775808 := by decide
    refine ⟨hle, ?_, ?_, ?_, ?_⟩ <;> omega

/-- The reciprocal: the quotient, rounded up. -/
theorem rcp_mk {T A q r : Int} {l : Nat} (hA : A = 2 ^ l) (hl : l ≤ 63) (T0 : 1 ≤ T) (hT : T ≤ A) (hh : A / 2 < T) (hA1 : A ≤ 9223372036854775808) (hA0 : 0 < A)
    (hq : (A / 2 * 18446744073709551616 + A * 9223372036854775808 % 18446744073709551616) / T = q) (hr : (A / 2 * 18446744073709551616 + A * 9223372036854775808 % 18446744073709551616) % T = r) :
    0 ≤ q ∧ q < 18446744073709551615 ∧ (r = 0 → Rcp T q l) ∧ (r ≠ 0 → Rcp T (q + 1) l) := by
  have e : A / 2 * 18446744073709551616 + A * 9223372036854775808 % 18446744073709551616 = A * 9223372036854775808 := by omega
  rw [e] at hq hr
  have h1 := Int.mul_ediv_add_emod (A * 9223372036854775808) T
  have h2 := Int.emod_nonneg (A * 9223372036854775808) (show T ≠ 0 by omega)
  have h3 := Int.emod_lt_of_pos (A * 9223372036854775808) (show 0 < T by omega)
  have h4 : 0 ≤ A * 9223372036854775808 / T := Int.ediv_nonneg (by omega) (by omega)
  rw [hq, hr] at h1
  rw [hr] at h2 h3
  rw [hq] at h4
  rw [Int.mul_comm T q] at h1
  have h5 : q < 18446744073709551615 := by
    by_cases hc : q < 18446744073709551615
    · exact hc
    · exfalso
      have := Int.mul_le_mul_of_nonneg_right (show 18446744073709551615 ≤ q by omega) (show 0 ≤ T by omega)
      omega
  refine ⟨h4, h5, fun h => ?_, fun h => ?_⟩
  · unfold Rcp
    rw [← hA]
    refine ⟨hl, h4, by omega, by omega, by omega, hT⟩
  · have e2 : (q + 1) * T = q * T + T := by rw [Int.add_mul]; omega
    unfold Rcp
    rw [← hA, e2]
    refine ⟨hl, by omega, by omega, by omega, by omega, hT⟩

/-- A block of the call's own, read and written cell by cell. -/
theorem own_block {W : World} {g : Nat} {cs : Array Value} {e : TypeId} (h : W.heap[g]? = some (.cells cs e (0, 0))) : (∀ j, W.cell? ⟨g, j, none⟩ = cs[j]?) ∧ ∀ j, W.frozen? ⟨g, j, none⟩ = false := by
  refine ⟨fun j => cell_of_row W g j cs e (0, 0) h, fun j => ?_⟩
  simp [World.frozen?, h]

theorem seven_set {B g : Nat} {a w : World} (h : Below B a w) (hg : B ≤ g) (v0 v1 v2 v3 v4 v5 v6 : Value) :
    Below B a (((((((w.setCell ⟨g, 0, none⟩ v0).setCell ⟨g, 1, none⟩ v1).setCell ⟨g, 2, none⟩ v2).setCell ⟨g, 3, none⟩ v3).setCell ⟨g, 4, none⟩ v4).setCell ⟨g, 5, none⟩ v5).setCell ⟨g, 6, none⟩ v6) :=
  ((((((h.setCell (p := ⟨g, 0, none⟩) hg v0).setCell (p := ⟨g, 1, none⟩) hg v1).setCell (p := ⟨g, 2, none⟩) hg v2).setCell (p := ⟨g, 3, none⟩) hg v3).setCell (p := ⟨g, 4, none⟩) hg v4).setCell (p := ⟨g, 5, none⟩) hg v5).setCell (p := ⟨g, 6, none⟩) hg v6

/-- What stands while the region of 'fit' runs. -/
abbrev NewS (B : Nat) (W : World) (a s b t : Int) (w' : World) : Prop :=
  w'.cell? ⟨B, 0, none⟩ = some (.int .u64 a) ∧ w'.cell? ⟨B, 1, none⟩ = some (.int .i64 s) ∧ w'.cell? ⟨B, 2, none⟩ = some (.pointer none) ∧
  w'.cell? ⟨B + 1 + 1 + 1 + 1, 0, none⟩ = some (.int .u64 b) ∧ w'.cell? ⟨B + 1 + 1 + 1 + 1, 1, none⟩ = some (.int .i64 t) ∧ w'.cell? ⟨B + 1 + 1 + 1 + 1, 2, none⟩ = some (.pointer none) ∧ B + 5 ≤ w'.heap.size ∧ Below W.heap.size W w'

theorem newS_keep {B : Nat} {W X w' : World} {a s b t : Int} (h : NewS B W a s b t X) (hW : W.heap.size ≤ X.heap.size) (hb : Below X.heap.size X w') : NewS B W a s b t w' := by
  obtain ⟨h1, h2, h3, h4, h5, h6, h7, h8⟩ := h
  have hs := hb.size
  refine ⟨?_, ?_, ?_, ?_, ?_, ?_, by omega, h8.trans (hb.mono hW)⟩
  · rw [hb.cell (p := ⟨B, 0, none⟩) (by show B < _; omega)]; exact h1
  · rw [hb.cell (p := ⟨B, 1, none⟩) (by show B < _; omega)]; exact h2
  · rw [hb.cell (p := ⟨B, 2, none⟩) (by show B < _; omega)]; exact h3
  · rw [hb.cell (p := ⟨B + 1 + 1 + 1 + 1, 0, none⟩) (by show B + 1 + 1 + 1 + 1 < _; omega)]; exact h4
  · rw [hb.cell (p := ⟨B + 1 + 1 + 1 + 1, 1, none⟩) (by show B + 1 + 1 + 1 + 1 < _; omega)]; exact h5
  · rw [hb.cell (p := ⟨B + 1 + 1 + 1 + 1, 2, none⟩) (by show B + 1 + 1 + 1 + 1 < _; omega)]; exact h6

theorem newS_draw {B : Nat} {W : World} {a s b t : Int} (h : NewS B W a s b t W) : NewS B W a s b t W.drew := newS_keep h (Nat.le_refl _) (Below.refl _ _).drew
theorem newS_next {B : Nat} {W X w' : World} {a s b t : Int} (h : NewS B W a s b t X) (hb : Below X.heap.size X w') : NewS B W a s b t w' := newS_keep h h.2.2.2.2.2.2.2.size hb

set_option maxHeartbeats 1000000 in
theorem new_any (N a s T : Int) (w : World) (hN : TM N a s) (n0 : -10000000000000000000 ≤ N) (n1 : N ≤ 10000000000000000000) (T0 : 1 ≤ T) (T1 : T ≤ 9223372036854775807) :
    Calls Yba.prog 6 #[.agg #[.int .u64 a, .int .i64 s, .pointer none], .int .i64 T] w fun e w' => ∃ recip l fit, e = .returned (.agg #[.int .u64 a, .int .i64 s, .pointer none, .int .i64 T, .int .u64 recip, .int .u64 (l : Nat), .bool fit]) ∧ Rcp T recip l ∧ Below w.heap.size w w' := by
  obtain ⟨s0, s1⟩ := TM_sec hN (by omega) (by omega)
  have HN : Hid _ := hN
  have HN0 : Hid _ := n0
  have HN1 : Hid _ := n1
  clear hN n0 n1
  go_enter Yba.func6, Yba.ntmps6
  go_wp2_with fail
  refine (add_any N a s 9223372036854775807 _ HN.out s0 s1 (by decide) (by decide)).mono ?_
  rintro e w1 ⟨b, t, rfl, hT, o1, o2, hw⟩
  obtain rfl := hw.symm
  obtain ⟨t0, t1⟩ := TM_sec hT (by have := HN0.out; omega) (by have := HN1.out; omega)
  have HT : Hid _ := hT
  clear hT hw
  go_wp2_with fail
  generalize hW : ((((w.alloc (.cells #[.int .u64 a, .int .i64 s, .pointer none] 27)).alloc (.cells #[.int .u64 0, .int .i64 0, .pointer none, .int .i64 0, .int .u64 0, .int .u64 0, .bool false] 30)).alloc (.cells o1 27)).alloc (.cells o2 27)).alloc (.cells #[.int .u64 b, .int .i64 t, .pointer none] 27) = W
  have hS : NewS w.heap.size W a s b t W := by
    refine ⟨?_, ?_, ?_, ?_, ?_, ?_, ?_, Below.refl _ _⟩ <;> (rw [← hW]; simp [go_sem, World.cell?_alloc_past])
  have hsz : W.heap.size = w.heap.size + 5 := by rw [← hW]; simp
  have hg : W.heap[w.heap.size + 1]? = some (.cells #[.int .u64 0, .int .i64 0, .pointer none, .int .i64 0, .int .u64 0, .int .u64 0, .bool false] 30 (0, 0)) := by
    rw [← hW, Below.heap_alloc _ _ _ (by simp), Below.heap_alloc _ _ _ (by simp), Below.heap_alloc _ _ _ (by simp)]
    have := heap_alloc_new (w.alloc (.cells #[.int .u64 a, .int .i64 s, .pointer none] 27)) (.cells #[.int .u64 0, .int .i64 0, .pointer none, .int .i64 0, .int .u64 0, .int .u64 0, .bool false] 30)
    simpa using this
  have hbW : Below w.heap.size w W := by
    rw [← hW]; exact bal (bal (bal (bal (bal (Below.refl _ _) _) _) _) _) _
  have HS : Hid _ := hS
  have HZ : Hid _ := hsz
  have HG : Hid _ := hg
  clear hW hS hsz hg
  have k1 : (9223372036854775807 : Int) ≤ 9223372036854775807 := by decide
  go_region_held3 (fun w' => NewS w.heap.size W a s b t w') (first | exact newS_draw HS.out | exact newS_next (by assumption) (by assumption))
    (first
      | (go_at_call_of 12 a; refine (sub_eq (N + 9223372036854775807) N 9223372036854775807 b t a s _ HT.out HN.out t0 t1 s0 s1 (by omega) (by decide) (by decide)).mono ?_; rintro e w' ⟨rfl, hb1⟩)
      | (go_at_call 7; refine (add_bel (N + 9223372036854775807) b t T _ HT.out t0 t1 (by omega) T1).mono ?_; rintro e w' ⟨b2, t2, rfl, hT2, hb2⟩; have HT2 : Hid _ := hT2; clear hT2)
      | (go_at_call 12; refine (sub_eq (N + 9223372036854775807 + T) (N + 9223372036854775807) T b2 t2 b t _ HT2.out HT.out (by have := TM_sec HT2.out (by have := HN0.out; omega) (by have := HN1.out; omega); omega) (by have := TM_sec HT2.out (by have := HN0.out; omega) (by have := HN1.out; omega); omega) t0 t1 (by omega) (by omega) T1).mono ?_; rintro e w' ⟨rfl, hb3⟩))
  go_wp2_with fail
  refine (Yba.bits_Len64 (T - 1) _ (by omega) (by omega)).mono ?_
  rintro e w9 ⟨rfl, hw⟩
  obtain rfl := hw.symm
  clear hw
  obtain ⟨l, hl, l63, l1, l2, l3, l4⟩ := log_tick T T0 T1
  rw [hl]
  clear hl
  have hF : NewS w.heap.size W a s b t w' := by assumption
  obtain ⟨f1, f2, f3, f4, f5, f6, f7, f8⟩ := hF
  have hblk : w'.heap[w.heap.size + 1]? = some (.cells #[.int .u64 0, .int .i64 0, .pointer none, .int .i64 0, .int .u64 0, .int .u64 0, .bool false] 30 (0, 0)) := by
    have hz := HZ.out
    rw [f8.block _ (by omega)]
    exact HG.out
  obtain ⟨gc, gf⟩ := own_block hblk
  have c0 := gc 0; have c1 := gc 1; have c2 := gc 2; have c3 := gc 3; have c4 := gc 4; have c5 := gc 5; have c6 := gc 6
  have z0 := gf 0; have z1 := gf 1; have z2 := gf 2; have z3 := gf 3; have z4 := gf 4; have z5 := gf 5; have z6 := gf 6
  simp only [List.getElem?_toArray, List.getElem?_cons_zero, List.getElem?_cons_succ] at c0 c1 c2 c3 c4 c5 c6
  have hbF : Below w.heap.size w w' := hbW.trans (f8.mono (by have hz := HZ.out; omega))
  clear hb1 hb2 hb3 f4 f5 f6 f7 f8 hblk gc gf hbW HS HZ HG HT HT2
  go_wp2_with fail
  rw [IntKind.wrap_u64]
  refine (div_any (2 ^ l / 2) (2 ^ l * 9223372036854775808 % 18446744073709551616) T _ (by omega) l2 (by omega) (by omega) (by omega)).mono ?_
  rintro e w10 ⟨rfl, n, hw⟩
  obtain rfl := hw.symm
  clear hw
  obtain ⟨q, hq⟩ : ∃ q, (2 ^ l / 2 * 18446744073709551616 + 2 ^ l * 9223372036854775808 % 18446744073709551616) / T = q := ⟨_, rfl⟩
  obtain ⟨r, hr⟩ : ∃ r, (2 ^ l / 2 * 18446744073709551616 + 2 ^ l * 9223372036854775808 % 18446744073709551616) % T = r := ⟨_, rfl⟩
  obtain ⟨q0, q1, q2, q3⟩ := rcp_mk rfl l63 T0 l1 l2 l3 l4 hq hr
  rw [hq, hr]
  have Q2 : Hid _ := q2
  have Q3 : Hid _ := q3
  clear hq hr q2 q3
  by_cases hr0 : r = 0
  · subst hr0
    go_wp2
    exact bodyPost_ret (v := .agg #[.int .u64 a, .int .i64 s, .pointer none, .int .i64 T, .int .u64 (q), .int .u64 l, .bool true]) (by simp [results, Yba.results6, go_sem, c0, c1, c2, c3, c4, c5, c6]) rfl ⟨q, l, true, rfl, Q2.out trivial, seven_set (below_drewN hbF n) (Nat.le_succ _) _ _ _ _ _ _ _⟩
  · have hrb : (r != 0) = true := by simp [hr0]
    go_wp2
    exact bodyPost_ret (v := .agg #[.int .u64 a, .int .i64 s, .pointer none, .int .i64 T, .int .u64 (q + 1), .int .u64 l, .bool true]) (by simp [results, Yba.results6, go_sem, c0, c1, c2, c3, c4, c5, c6]) rfl ⟨q + 1, l, true, rfl, Q3.out hr0, seven_set (below_drewN hbF n) (Nat.le_succ _) _ _ _ _ _ _ _⟩

end Go.Proofs.Ybulkcjtk

/-
  LawS4289AMatch: the walk.
-/
import Derived.Test.YbulkcjumLawS
namespace Go.Proofs.Ybulkcjum
open Go.RowKit
set_option linter.unusedVariables false

set_option maxHeartbeats 4000000 in
theorem nil_same (po ro : Option Addr) (n m c c' : Nat) (ss tt : List ByteArray) (vk ek ex : Int) (adds : Bool) (w : World) (h1 : Rd w po n c ss) (h2 : Rd w ro m c' tt) (hn : n ≤ 1024) (hm : m ≤ 1024)
    (v0 : 0 ≤ vk) (v1 : vk ≤ 255) (k0 : 0 ≤ ek) (k1 : ek ≤ 255) (x0 : 0 ≤ ex) (x1 : ex ≤ 255) :
    Calls Yba.prog 3 #[.slice po n c, .slice ro m c', .bool true, .bool true, .int .u8 vk, .int .u8 ek, .bool adds, .int .u8 ex] w fun e w' => e = .returned (.bool true) ∧ Below w.heap.size w w' := by
  obtain ⟨V, hV⟩ := vkind_at vk v0
  obtain ⟨E, hE⟩ := ekind_at ek k0
  have H1 : Hid _ := h1
  have H2 : Hid _ := h2
  clear h1 h2
  go_enter Yba.func3, Yba.ntmps3
  go_wp2_with fail
  refine (clone_any po n c ss _ H1.out hn).mono ?_
  rintro e w1 ⟨pa, pc, rfl, r1, hb1⟩
  have R1 : Hid _ := r1
  clear r1
  go_wp2_with fail
  refine (clone_any ro m c' tt _ (Rd.next H2.out hb1) hm).mono ?_
  rintro e w2 ⟨qa, qc, rfl, r2, hb2⟩
  have R2 : Hid _ := r2
  clear r2
  go_wp2_with fail
  refine (clone_any po n c ss _ (Rd.next (Rd.next H1.out hb1) hb2) hn).mono ?_
  rintro e w3 ⟨ra, rc, rfl, r3, hb3⟩
  have R3 : Hid _ := r3
  clear r3
  go_wp2_with fail
  refine (clone_any ra n rc ss _ R3.out hn).mono ?_
  rintro e w4 ⟨sa, sc, rfl, r4, hb4⟩
  have P4 : Rd w4 po n c ss := Rd.next (Rd.next (Rd.next (Rd.next H1.out hb1) hb2) hb3) hb4
  have Q4 : Rd w4 pa n pc ss := Rd.next (Rd.next (Rd.next R1.out hb2) hb3) hb4
  have T4 : Rd w4 ra n rc ss := Rd.next R3.out hb4
  have hbw : Below w.heap.size w w4 := hb1.trans ((hb2.trans ((hb3.trans (hb4.mono hb3.size)).mono hb2.size)).mono hb1.size)
  have HP : Hid _ := P4
  have HQ : Hid _ := Q4
  have HT : Hid _ := T4
  have HU : Hid _ := r4
  have HB : Hid _ := hbw
  clear P4 Q4 T4 r4 hbw hb1 hb2 hb3 hb4 H1 H2 R1 R2 R3
  go_wp2_with fail
  refine (adds_nil (w4.heap.size + 1 + 1) _).mono ?_
  rintro e w8 ⟨rfl, hw⟩
  have bw8 : Below w4.heap.size w4 w8 := by rw [hw]; exact bal (bal (bal (Below.refl _ _) _) _) _
  clear hw hV hE
  go_wp2_with fail
  refine (eq_same pa po n pc c ss _ (Rd.next HQ.out bw8) (Rd.next HP.out bw8) hn).mono ?_
  rintro e wf ⟨rfl, qwf, hw⟩
  have bwf : Below w4.heap.size w4 wf := by rw [hw]; exact below_drewN bw8 _
  clear hw
  go_wp2_with fail
  refine (eq_same ra sa n rc sc ss _ (Rd.next HT.out bwf) (Rd.next HU.out bwf) hn).mono ?_
  rintro e wg ⟨rfl, qwg, hw⟩
  have bwg : Below w4.heap.size w4 wg := by rw [hw]; exact below_drewN bwf _
  clear hw
  go_wp2
  go_ret
  exact ⟨rfl, HB.out.trans (bwg.mono HB.out.size)⟩

set_option maxHeartbeats 4000000 in
theorem nil_other (po ro : Option Addr) (n m c c' : Nat) (ss tt : List ByteArray) (vk ek ex : Int) (adds : Bool) (w : World) (h1 : Rd w po n c ss) (h2 : Rd w ro m c' tt) (hn : n ≤ 1024) (hm : m ≤ 1024)
    (v0 : 0 ≤ vk) (v1 : vk ≤ 255) (k0 : 0 ≤ ek) (k1 : ek ≤ 255) (x0 : 0 ≤ ex) (x1 : ex ≤ 255) :
    Calls Yba.prog 3 #[.slice po n c, .slice ro m c', .bool false, .bool true, .int .u8 vk, .int .u8 ek, .bool adds, .int .u8 ex] w fun e w' => e = .returned (.bool true) ∧ Below w.heap.size w w' := by
  obtain ⟨V, hV⟩ := vkind_at vk v0
  obtain ⟨E, hE⟩ := ekind_at ek k0
  have H1 : Hid _ := h1
  have H2 : Hid _ := h2
  clear h1 h2
  go_enter Yba.func3, Yba.ntmps3
  go_wp2_with fail
  refine (clone_any po n c ss _ H1.out hn).mono ?_
  rintro e w1 ⟨pa, pc, rfl, r1, hb1⟩
  have R1 : Hid _ := r1
  clear r1
  go_wp2_with fail
  refine (clone_any ro m c' tt _ (Rd.next H2.out hb1) hm).mono ?_
  rintro e w2 ⟨qa, qc, rfl, r2, hb2⟩
  have R2 : Hid _ := r2
  clear r2
  go_wp2_with fail
  refine (clone_any qa m qc tt _ R2.out hm).mono ?_
  rintro e w4 ⟨sa, sc, rfl, r4, hb4⟩
  have P4 : Rd w4 po n c ss := Rd.next (Rd.next (Rd.next H1.out hb1) hb2) hb4
  have Q4 : Rd w4 pa n pc ss := Rd.next (Rd.next R1.out hb2) hb4
  have T4 : Rd w4 qa m qc tt := Rd.next R2.out hb4
  have hbw : Below w.heap.size w w4 := hb1.trans ((hb2.trans (hb4.mono hb2.size)).mono hb1.size)
  have HP : Hid _ := P4
  have HQ : Hid _ := Q4
  have HT : Hid _ := T4
  have HU : Hid _ := r4
  have HB : Hid _ := hbw
  clear P4 Q4 T4 r4 hbw hb1 hb2 hb4 H1 H2 R1 R2
  go_wp2_with fail
  refine (adds_nil (w4.heap.size + 1 + 1) _).mono ?_
  rintro e w8 ⟨rfl, hw⟩
  have bw8 : Below w4.heap.size w4 w8 := by rw [hw]; exact bal (bal (bal (Below.refl _ _) _) _) _
  clear hw hV hE
  go_wp2_with fail
  refine (eq_same pa po n pc c ss _ (Rd.next HQ.out bw8) (Rd.next HP.out bw8) hn).mono ?_
  rintro e wf ⟨rfl, qwf, hw⟩
  have bwf : Below w4.heap.size w4 wf := by rw [hw]; exact below_drewN bw8 _
  clear hw
  go_wp2_with fail
  refine (eq_same qa sa m qc sc tt _ (Rd.next HT.out bwf) (Rd.next HU.out bwf) hm).mono ?_
  rintro e wg ⟨rfl, qwg, hw⟩
  have bwg : Below w4.heap.size w4 wg := by rw [hw]; exact below_drewN bwf _
  clear hw
  go_wp2
  go_ret
  exact ⟨rfl, HB.out.trans (bwg.mono HB.out.size)⟩

set_option maxHeartbeats 400000 in
theorem law_long1 (po ro : Option Addr) (n m c c' : Nat) (same nilV adds : Bool) (vk ek ex : Int) (w : World) (h : 1024 < n) (hn : n ≤ maxLen) (hm : m ≤ maxLen) :
    Calls Yba.prog 3 #[.slice po n c, .slice ro m c', .bool same, .bool nilV, .int .u8 vk, .int .u8 ek, .bool adds, .int .u8 ex] w fun e w' => e = .returned (.bool true) ∧ Below w.heap.size w w' := by
  unfold maxLen at hn hm
  have t1 : decide ((1024 : Int) < (n : Int)) = true := by simp; omega
  go_enter Yba.func3, Yba.ntmps3
  go_wp2
  go_ret
  exact ⟨rfl, Below.refl _ _⟩
set_option maxHeartbeats 400000 in
theorem law_long2 (po ro : Option Addr) (n m c c' : Nat) (same nilV adds : Bool) (vk ek ex : Int) (w : World) (h : n ≤ 1024) (h2 : 1024 < m) (hm : m ≤ maxLen) :
    Calls Yba.prog 3 #[.slice po n c, .slice ro m c', .bool same, .bool nilV, .int .u8 vk, .int .u8 ek, .bool adds, .int .u8 ex] w fun e w' => e = .returned (.bool true) ∧ Below w.heap.size w w' := by
  unfold maxLen at hm
  have t1 : decide ((1024 : Int) < (n : Int)) = false := by simp; omega
  have t2 : decide ((1024 : Int) < (m : Int)) = true := by simp; omega
  go_enter Yba.func3, Yba.ntmps3
  go_wp2
  go_ret
  exact ⟨rfl, Below.refl _ _⟩

/-! What came in. -/
theorem rd_nil (w : World) : Rd w none 0 0 [] := ⟨fun _ => ⟨rfl, rfl⟩, rfl, fun ad had => by cases had⟩
theorem rd_take {w : World} {x : Addr} {len cap : Nat} {zs : List ByteArray} (hl : len ≤ cap) (hz : zs.length = cap) (hcell : ∀ i, i < zs.length → w.cell? (x.add i) = some (.string (zs.getD i ByteArray.empty))) : Rd w (some x) len cap (zs.take len) := by
  refine ⟨(fun h => by cases h), by simp; omega, fun ad had j hj => ?_⟩
  obtain rfl := Option.some.inj had
  rw [hcell j (by omega)]
  have h1 : j < zs.length := by omega
  simp [h1, hj]

end Go.Proofs.Ybulkcjum

/-
  LawS4285AUTF8: the walk.
-/
import Derived.Test.YbulkcjsiWalks
import Derived.Test.YbulkcjsiEnc
import Derived.Test.YbulkcjsiUtf
import Derived.Test.YbulkcjsiLawB
namespace Go.Proofs.Ybulkcjsi
open Go.RowKit

/-- What the loop over the new bytes reads: each new byte of 'out' is the encoder's. -/
theorem new_behind {w3 : World} {g len0 : Nat} {zs : List Value} (hg : g < w3.heap.size) (hz : ∀ u ∈ zs, ∃ x : Int, u = .int .u8 x)
    (hlast : ∀ j, j < zs.length → w3.cell? ⟨g, len0 + j, none⟩ = zs[j]?) :
    ∀ j, j < zs.length → ∃ x : Int, (w3.alloc (.cells zs.toArray 5)).cell? ⟨g, len0 + j, none⟩ = some (.int .u8 x) ∧ (w3.alloc (.cells zs.toArray 5)).cell? ⟨w3.heap.size, j, none⟩ = some (.int .u8 x) := by
  intro j hj
  obtain ⟨x, hx⟩ := hz zs[j] (List.getElem_mem hj)
  refine ⟨x, ?_, ?_⟩
  · rw [World.cell?_of_block (w := w3) (Below.heap_alloc w3 _ g hg), hlast j hj, List.getElem?_eq_getElem hj, hx]
  · rw [cell_of_row _ w3.heap.size j zs.toArray 5 (0, 0) (heap_alloc_new w3 _)]
    simp [hj, hx]

theorem rune_ints (r : Int) : ∀ u ∈ Lib.runeCells r, ∃ x : Int, u = .int .u8 x := by
  intro u hu
  obtain ⟨x, _, rfl⟩ := List.mem_map.1 hu
  exact ⟨x, rfl⟩
theorem rune_len (r : Int) : 1 ≤ (Lib.runeCells r).length ∧ (Lib.runeCells r).length ≤ 4 := by
  unfold Lib.runeCells; rw [List.length_map]; exact Lib.encodeRuneZ_length r

set_option maxHeartbeats 1000000 in
theorem utf_full (b off len0 cap0 : Nat) (z0 : List Int) (a1 a2 a3 : Int) (w : World) (hpos : 0 < len0) (h1024 : len0 ≤ 1024) (hl : len0 ≤ z0.length)
    (hcell : ∀ i, i < z0.length → w.cell? ⟨b, off + i, none⟩ = some (.int .u8 (z0.getD i 0))) (hb : b < w.heap.size)
    (h1 : 0 ≤ a1) (h1' : a1 ≤ 255) (h2 : 0 ≤ a2) (h2' : a2 ≤ 255) (h3 : -2147483648 ≤ a3) (h3' : a3 ≤ 2147483647) :
    Calls Yba.prog 3 #[.slice (some ⟨b, off, none⟩) len0 cap0, .int .u8 a1, .int .u8 a2, .int .i32 a3] w fun e w' => e = .returned (.bool true) ∧ Below w.heap.size w w' := by
  obtain ⟨i0, hi, hz0, hz1, hz2⟩ := info_parts Yba.info5
  obtain ⟨ys, hylen, hys, hy1⟩ := news_of (z0 := z0) hl
  have Hcell : Hid _ := hcell
  have Hys : Hid _ := hys
  clear hcell hys
  go_enter Yba.func3, Yba.ntmps3
  go_wp2_with (first | (at_builtin; refine wpList_append_src _ rfl _ _ 22 rfl w.heap.size 5 i0 (.int .u8 0) 1 1 Yba.underlying22 hi hz0 hz1 hz2 rfl (by decide) _ _ _ rfl (World.ownsRow_nil _ _ _ _) _ len0 cap0 ys rfl ?c0 ?c1 ?c2 ?c3 ?c4 ?c5 ?c6 ?_) | fail)
  case c0 => intro h; cases h
  case c1 => omega
  case c2 =>
    intro ad had j u hj
    obtain rfl := Option.some.inj had
    have hjl : j < len0 := by
      have := (List.getElem?_eq_some_iff.1 hj).1
      omega
    rw [Hys.out j hjl] at hj
    rw [Addr.add_lit, Hcell.out j (by omega), ← hj]
  case c3 => exact hy1
  case c4 => unfold maxLen; omega
  case c5 => omega
  case c6 => exact Nat.le_refl _
  intro v w1 hown _ hgrow
  go_wp2_with fail
  refine (rune_any a1 a2 a3 _ h1 h1' h2 h2' h3 h3').mono ?_
  rintro e w2 ⟨r, o, rfl, hr0, hr1, hw⟩
  obtain rfl := hw.symm
  go_wp2_with fail
  have hsz1 := hgrow.size
  have hrl := rune_len r
  have hri := rune_ints r
  refine (char_utf8 w.heap.size v len0 ys r _ (hown.alloc o) h1024 (by simp; omega) hr0 hr1).mono ?_
  generalize hzs : Lib.runeCells r = zs at hrl hri ⊢
  have Hzs : Hid (Lib.runeCells r = zs) := hzs
  clear hzs
  rintro e w3 ⟨v', rfl, hout, hd, hbel3⟩
  have hbel : Below w.heap.size w w3 := (((Below.refl _ w).grown hgrow (Nat.le_refl _) (fun k hk => by cases hk)).alloc hsz1 o).trans hbel3
  have HF := behind hpos hl hb Hcell.out hylen Hys.out hbel hout hd
  obtain ⟨g, cap, g', cap', hv', hv, hg, hg', hb3, hc3, hlast⟩ := HF
  have Hnew : Hid _ := new_behind hg hri hlast
  have Hc3 : Hid _ := hc3
  clear hc3 hlast hout hd hbel3 hown hgrow hri
  rw [hv', hv]
  clear hv hv'
  go_wp2_with fail
  refine (enc_any r _ hr0 hr1).mono ?_
  rw [Hzs.out]
  rintro e w4 ⟨rfl, hw⟩
  have hb4 : Below w3.heap.size w3 w4 := by rw [hw]; exact (Below.refl _ _).alloc (Nat.le_refl _) _
  have hs4 : w3.heap.size < w4.heap.size := by rw [hw]; simp
  have Hn4 : Hid (∀ j, j < zs.length → ∃ x : Int, w4.cell? ⟨g, len0 + j, none⟩ = some (.int .u8 x) ∧ w4.cell? ⟨w3.heap.size, j, none⟩ = some (.int .u8 x)) := by rw [hw]; exact Hnew.out
  clear hw Hnew
  obtain ⟨B3, hB3⟩ : ∃ B, B = w3.heap.size := ⟨_, rfl⟩
  rw [← hB3] at hb4 hs4 Hn4 hg hg' hb3
  have HB3 : Hid (B3 = w3.heap.size) := hB3
  rw [← hB3]
  clear hB3
  go_wp2_with fail
  go_loopw [13] (fun i wr => ∃ k : Nat, k ≤ len0 ∧ i = .int .i64 k ∧ Below w4.heap.size w4 wr) (fun i _ => len0 - (intOf i).toNat)
  case atStart => exact ⟨0, Nat.zero_le _, rfl, Below.refl _ _⟩
  case round =>
    obtain ⟨k, hk, rfl, hwr⟩ := hrel
    by_cases hlt : k < len0
    · obtain ⟨e1, e2, e3⟩ := Hc3.out k hlt
      have hwr3 := hb4.trans (hwr.mono (Nat.le_of_lt hs4))
      rw [← hwr3.cell (p := ⟨g, k, none⟩) hg] at e1
      rw [← hwr3.cell (p := ⟨g', k, none⟩) hg'] at e2
      rw [← hwr3.cell (p := ⟨b, off + k, none⟩) hb3] at e3
      generalize z0.getD k 0 = y at e1 e2 e3
      have k1 : (k : Int) < (len0 : Int) := by omega
      clear hwr3
      go_wp2
      go_quiet (fail)
      go_wp2
      go_roundw
      case rel => exact ⟨k + 1, by omega, by go_num, below_drewN hwr _⟩
      case measure => simp [intOf]; omega
    · obtain rfl : k = len0 := by omega
      obtain ⟨wo, rfl⟩ : ∃ wo : World, wo = wr := ⟨_, rfl⟩
      go_wp2_with fail
      go_loopw [14] (fun i wr => ∃ m : Nat, m ≤ zs.length ∧ i = .int .i64 m ∧ Below w4.heap.size w4 wr) (fun i _ => zs.length - (intOf i).toNat)
      case atStart => exact ⟨0, Nat.zero_le _, rfl, hwr⟩
      case round =>
        obtain ⟨m, hm, rfl, hwr2⟩ := hrel
        by_cases hlt2 : m < zs.length
        · obtain ⟨x, e1, e2⟩ := Hn4.out m hlt2
          rw [← hwr2.cell (p := ⟨g, k + m, none⟩) (Nat.lt_trans hg hs4)] at e1
          rw [← hwr2.cell (p := ⟨B3, m, none⟩) hs4] at e2
          have k1 : (m : Int) < (zs.length : Int) := by omega
          go_wp2
          go_quiet (fail)
          go_wp2
          go_roundw
          case rel => exact ⟨m + 1, by omega, by go_num, below_drewN hwr2 _⟩
          case measure => simp [intOf]; omega
        · have hsz := hbel.size
          have hB := HB3.out
          have hbw : Below w.heap.size w wr := hbel.trans ((hb4.trans (hwr2.mono (Nat.le_of_lt hs4))).mono (by omega))
          go_wp2
          go_ret
          exact ⟨rfl, hbw⟩

set_option maxHeartbeats 1000000 in
theorem utf_empty (a0 : Option Addr) (cap0 : Nat) (hnone : a0 = none → cap0 = 0) (a1 a2 a3 : Int) (w : World)
    (h1 : 0 ≤ a1) (h1' : a1 ≤ 255) (h2 : 0 ≤ a2) (h2' : a2 ≤ 255) (h3 : -2147483648 ≤ a3) (h3' : a3 ≤ 2147483647) :
    Calls Yba.prog 3 #[.slice a0 0 cap0, .int .u8 a1, .int .u8 a2, .int .i32 a3] w fun e w' => e = .returned (.bool true) ∧ Below w.heap.size w w' := by
  obtain ⟨i0, hi, hz0, hz1, hz2⟩ := info_parts Yba.info5
  have Hnone : Hid _ := hnone
  clear hnone
  go_enter Yba.func3, Yba.ntmps3
  go_wp2_with (first | (at_builtin; refine wpList_append_src _ rfl _ _ 22 rfl w.heap.size 5 i0 (.int .u8 0) 1 1 Yba.underlying22 hi hz0 hz1 hz2 rfl (by decide) _ _ _ rfl (World.ownsRow_nil _ _ _ _) a0 0 cap0 [] rfl ?c0 ?c1 ?c2 ?c3 ?c4 ?c5 ?c6 ?_) | fail)
  case c0 => intro h; simp [Hnone.out h]
  case c1 => rfl
  case c2 => intro ad had j u hj; simp at hj
  case c3 => intro u hu; cases hu
  case c4 => unfold maxLen; omega
  case c5 => omega
  case c6 => exact Nat.le_refl _
  intro v w1 hown _ hgrow
  go_wp2_with fail
  refine (rune_any a1 a2 a3 _ h1 h1' h2 h2' h3 h3').mono ?_
  rintro e w2 ⟨r, o, rfl, hr0, hr1, hw⟩
  obtain rfl := hw.symm
  go_wp2_with fail
  have hsz1 := hgrow.size
  have hrl := rune_len r
  have hri := rune_ints r
  refine (char_utf8 w.heap.size v 0 [] r _ (hown.alloc o) (by omega) (by simp; omega) hr0 hr1).mono ?_
  generalize hzs : Lib.runeCells r = zs at hrl hri ⊢
  have Hzs : Hid (Lib.runeCells r = zs) := hzs
  clear hzs
  rintro e w3 ⟨v', rfl, hout, hd, hbel3⟩
  have hbel : Below w.heap.size w w3 := (((Below.refl _ w).grown hgrow (Nat.le_refl _) (fun k hk => by cases hk)).alloc hsz1 o).trans hbel3
  obtain ⟨g, cap, hv', _, hg, _, _, hc⟩ := own_shape hout (by omega)
  simp only [Nat.zero_add, List.nil_append] at hc hv'
  have Hnew : Hid _ := new_behind (len0 := 0) hg hri (fun j hj => by rw [Nat.zero_add]; exact hc j (by omega))
  clear hc hout hd hbel3 hown hgrow hri
  rw [hv']
  clear hv'
  go_wp2_with fail
  refine (enc_any r _ hr0 hr1).mono ?_
  rw [Hzs.out]
  rintro e w4 ⟨rfl, hw⟩
  have hb4 : Below w3.heap.size w3 w4 := by rw [hw]; exact (Below.refl _ _).alloc (Nat.le_refl _) _
  have hs4 : w3.heap.size < w4.heap.size := by rw [hw]; simp
  have Hn4 : Hid (∀ j, j < zs.length → ∃ x : Int, w4.cell? ⟨g, 0 + j, none⟩ = some (.int .u8 x) ∧ w4.cell? ⟨w3.heap.size, j, none⟩ = some (.int .u8 x)) := by rw [hw]; exact Hnew.out
  clear hw Hnew
  obtain ⟨B3, hB3⟩ : ∃ B, B = w3.heap.size := ⟨_, rfl⟩
  rw [← hB3] at hb4 hs4 Hn4 hg
  have HB3 : Hid (B3 = w3.heap.size) := hB3
  rw [← hB3]
  clear hB3
  go_wp2_with fail
  go_loopw [13] (fun i wr => i = .int .i64 0 ∧ Below w4.heap.size w4 wr) (fun i _ => 0)
  case atStart => exact ⟨rfl, Below.refl _ _⟩
  case round =>
      obtain ⟨rfl, hwr⟩ := hrel
      obtain ⟨wo, rfl⟩ : ∃ wo : World, wo = wr := ⟨_, rfl⟩
      go_wp2_with fail
      go_loopw [14] (fun i wr => ∃ m : Nat, m ≤ zs.length ∧ i = .int .i64 m ∧ Below w4.heap.size w4 wr) (fun i _ => zs.length - (intOf i).toNat)
      case atStart => exact ⟨0, Nat.zero_le _, rfl, hwr⟩
      case round =>
        obtain ⟨m, hm, rfl, hwr2⟩ := hrel
        by_cases hlt2 : m < zs.length
        · obtain ⟨x, e1, e2⟩ := Hn4.out m hlt2
          rw [Nat.zero_add, ← hwr2.cell (p := ⟨g, m, none⟩) (Nat.lt_trans hg hs4)] at e1
          rw [← hwr2.cell (p := ⟨B3, m, none⟩) hs4] at e2
          have k1 : (m : Int) < (zs.length : Int) := by omega
          go_wp2
          go_quiet (fail)
          go_wp2
          go_roundw
          case rel => exact ⟨m + 1, by omega, by go_num, below_drewN hwr2 _⟩
          case measure => simp [intOf]; omega
        · have hsz := hbel.size
          have hB := HB3.out
          have hbw : Below w.heap.size w wr := hbel.trans ((hb4.trans (hwr2.mono (Nat.le_of_lt hs4))).mono (by omega))
          go_wp2
          go_ret
          exact ⟨rfl, hbw⟩

theorem utf_long (a0 : Option Addr) (len0 cap0 : Nat) (a1 a2 a3 : Int) (w : World) (h : 1024 < len0) (hm : len0 ≤ maxLen) :
    Calls Yba.prog 3 #[.slice a0 len0 cap0, .int .u8 a1, .int .u8 a2, .int .i32 a3] w fun e w' => e = .returned (.bool true) ∧ Below w.heap.size w w' := by
  unfold maxLen at hm
  go_enter Yba.func3, Yba.ntmps3
  go_wp2
  go_ret
  exact ⟨rfl, Below.refl _ _⟩

end Go.Proofs.Ybulkcjsi

/-
  LawS4285ALatin1: the walk.
-/
import Derived.Test.YbulkcjsiWalks
import Derived.Test.YbulkcjsiLatin
import Derived.WalkSmall
import Derived.Deep.QuietTactic
import Derived.BigQuiet
import Derived.Outline
namespace Go.Proofs.Ybulkcjsi
open Go.RowKit

/-- The byte that appendChar lays in latin1Chars. -/
def LatB (r b : Int) : Prop :=
  (r ≤ 255 ∧ b = r % 256) ∨ (256 ≤ r ∧ nameStart r = true ∧ b = 192) ∨ (256 ≤ r ∧ nameStart r = false ∧ nameChar r = true ∧ b = 183) ∨ (256 ≤ r ∧ nameStart r = false ∧ nameChar r = false ∧ b = 215)

theorem latin_any (B : Nat) (v : Value) (n : Nat) (xs : List Value) (r : Int) (w : World) (hown : w.ownsRow B 5 1 v n xs) (hn : n ≤ 1024) (hB : B ≤ w.heap.size) :
    Calls Yba.prog 7 #[.int .u8 1, v, .int .i32 r] w fun e w' => ∃ v' b, e = .returned v' ∧ LatB r b ∧ w'.ownsRow B 5 1 v' (n + 1) (xs ++ [.int .u8 b]) ∧ w'.ownsRow B 5 1 v n xs ∧ Below B w w' := by
  by_cases h : r ≤ 255
  · exact (latin_low B v n xs r w hown hn hB h).mono fun e w' ⟨v', a, b, c, d⟩ => ⟨v', _, a, .inl ⟨h, rfl⟩, b, c, d⟩
  · have hr : 256 ≤ r := by omega
    cases hs : nameStart r
    · cases hc : nameChar r
      · exact (latin_none B v n xs r w hown hn hB hr hs hc).mono fun e w' ⟨v', a, b, c, d⟩ => ⟨v', _, a, .inr (.inr (.inr ⟨hr, hs, hc, rfl⟩)), b, c, d⟩
      · exact (latin_char B v n xs r w hown hn hB hr hs hc).mono fun e w' ⟨v', a, b, c, d⟩ => ⟨v', _, a, .inr (.inr (.inl ⟨hr, hs, hc, rfl⟩)), b, c, d⟩
    · exact (latin_start B v n xs r w hown hn hB hr hs).mono fun e w' ⟨v', a, b, c, d⟩ => ⟨v', _, a, .inr (.inl ⟨hr, hs, rfl⟩), b, c, d⟩

/-- What the copy holds. -/
theorem news_of {z0 : List Int} {len0 : Nat} (hl : len0 ≤ z0.length) :
    ∃ ys : List Value, ys.length = len0 ∧ (∀ j, j < len0 → ys[j]? = some (.int .u8 (z0.getD j 0))) ∧ ∀ u ∈ ys, u.oneCell' = true := by
  refine ⟨(z0.take len0).map (Value.int .u8), by simp; omega, fun j hj => ?_, fun u hu => ?_⟩
  · have : j < z0.length := by omega
    simp [hj, this]
  · obtain ⟨x, _, rfl⟩ := List.mem_map.1 hu
    rfl

/-- What is known behind the call of appendChar: where the two slices lie, and what their cells hold. -/
theorem behind {w w3 : World} {b off len0 : Nat} {z0 : List Int} {ys zs : List Value} {v v' : Value} {m : Nat} (hpos : 0 < len0) (hl : len0 ≤ z0.length) (hb : b < w.heap.size)
    (hcell : ∀ i, i < z0.length → w.cell? ⟨b, off + i, none⟩ = some (.int .u8 (z0.getD i 0))) (hylen : ys.length = len0) (hys : ∀ j, j < len0 → ys[j]? = some (.int .u8 (z0.getD j 0)))
    (hbel : Below w.heap.size w w3) (hout : w3.ownsRow w.heap.size 5 1 v' (len0 + m) (ys ++ zs)) (hd : w3.ownsRow w.heap.size 5 1 v len0 ys) :
    ∃ g cap g' cap', v' = .slice (some ⟨g, 0, none⟩) (len0 + m) cap ∧ v = .slice (some ⟨g', 0, none⟩) len0 cap' ∧ g < w3.heap.size ∧ g' < w3.heap.size ∧ b < w3.heap.size ∧
      (∀ j, j < len0 → w3.cell? ⟨g, j, none⟩ = some (.int .u8 (z0.getD j 0)) ∧ w3.cell? ⟨g', j, none⟩ = some (.int .u8 (z0.getD j 0)) ∧ w3.cell? ⟨b, off + j, none⟩ = some (.int .u8 (z0.getD j 0))) ∧
      (∀ j, j < m → w3.cell? ⟨g, len0 + j, none⟩ = zs[j]?) := by
  obtain ⟨g, cap, rfl, _, hg, _, _, hc⟩ := own_shape hout (by omega)
  obtain ⟨g', cap', rfl, _, hg', _, _, hc'⟩ := own_shape hd hpos
  refine ⟨g, cap, g', cap', rfl, rfl, hg, hg', Nat.lt_of_lt_of_le hb hbel.size, fun j hj => ⟨?_, ?_, ?_⟩, fun j hj => ?_⟩
  · rw [hc j (by omega), List.getElem?_append_left (by omega), hys j hj]
  · rw [hc' j (by omega), hys j hj]
  · rw [hbel.cell (p := ⟨b, off + j, none⟩) hb, hcell j (by omega)]
  · rw [hc (len0 + j) (by omega), List.getElem?_append_right (by omega), hylen]
    congr 1
    omega

set_option maxHeartbeats 1000000 in
theorem law_full (b off len0 cap0 : Nat) (z0 : List Int) (a1 a2 a3 : Int) (w : World) (hpos : 0 < len0) (h1024 : len0 ≤ 1024) (hl : len0 ≤ z0.length)
    (hcell : ∀ i, i < z0.length → w.cell? ⟨b, off + i, none⟩ = some (.int .u8 (z0.getD i 0))) (hb : b < w.heap.size)
    (h1 : 0 ≤ a1) (h1' : a1 ≤ 255) (h2 : 0 ≤ a2) (h2' : a2 ≤ 255) (h3 : -2147483648 ≤ a3) (h3' : a3 ≤ 2147483647) :
    Calls Yba.prog 4 #[.slice (some ⟨b, off, none⟩) len0 cap0, .int .u8 a1, .int .u8 a2, .int .i32 a3] w fun e w' => e = .returned (.bool true) ∧ Below w.heap.size w w' := by
  obtain ⟨i0, hi, hz0, hz1, hz2⟩ := info_parts Yba.info5
  obtain ⟨ys, hylen, hys, hy1⟩ := news_of (z0 := z0) hl
  have Hcell : Hid _ := hcell
  have Hys : Hid _ := hys
  clear hcell hys
  go_enter Yba.func4, Yba.ntmps4
  go_wp2_with (first | (at_builtin; refine wpList_append_src _ rfl _ _ 22 rfl w.heap.size 5 i0 (.int .u8 0) 1 1 Yba.underlying22 hi hz0 hz1 hz2 rfl (by decide) _ _ _ rfl (World.ownsRow_nil _ _ _ _) _ len0 cap0 ys rfl ?c0 ?c1 ?c2 ?c3 ?c4 ?c5 ?c6 ?_) | fail)
  case c0 => intro h; cases h
  case c1 => omega
  case c2 =>
    intro ad had j u hj
    obtain rfl := Option.some.inj had
    have hjl : j < len0 := by
      have := (List.getElem?_eq_some_iff.1 hj).1
      omega
    rw [Hys.out j hjl] at hj
    rw [Addr.add_lit, Hcell.out j (by omega), ← hj]
  case c3 => exact hy1
  case c4 => unfold maxLen; omega
  case c5 => omega
  case c6 => exact Nat.le_refl _
  intro v w1 hown _ hgrow
  go_wp2_with fail
  refine (rune_any a1 a2 a3 _ h1 h1' h2 h2' h3 h3').mono ?_
  rintro e w2 ⟨r, o, rfl, hr0, hr1, hw⟩
  obtain rfl := hw.symm
  go_wp2_with fail
  have hsz1 := hgrow.size
  refine (latin_any w.heap.size v len0 ys r _ (hown.alloc o) h1024 (by simp; omega)).mono ?_
  rintro e w3 ⟨v', bb, rfl, hlat, hout, hd, hbel3⟩
  have hbel : Below w.heap.size w w3 := (((Below.refl _ w).grown hgrow (Nat.le_refl _) (fun k hk => by cases hk)).alloc hsz1 o).trans hbel3
  have HF := behind hpos hl hb Hcell.out hylen Hys.out hbel hout hd
  obtain ⟨g, cap, g', cap', hv', hv, hg, hg', hb3, hc3, hlast⟩ := HF
  have hl0 := hlast 0 (by omega)
  simp only [Nat.add_zero, List.getElem?_cons_zero] at hl0
  have Hc3 : Hid _ := hc3
  have HL : Hid _ := hlat
  clear hc3 hlast hout hd hbel3 hown hgrow hlat
  rw [hv', hv]
  clear hv hv'
  go_wp2_with fail
  go_loopw [12] (fun i wr => ∃ k : Nat, k ≤ len0 ∧ i = .int .i64 k ∧ Below w3.heap.size w3 wr) (fun i _ => len0 - (intOf i).toNat)
  case atStart => exact ⟨0, Nat.zero_le _, rfl, Below.refl _ _⟩
  case round =>
    obtain ⟨k, hk, rfl, hwr⟩ := hrel
    by_cases hlt : k < len0
    · obtain ⟨e1, e2, e3⟩ := Hc3.out k hlt
      rw [← hwr.cell (p := ⟨g, k, none⟩) hg] at e1
      rw [← hwr.cell (p := ⟨g', k, none⟩) hg'] at e2
      rw [← hwr.cell (p := ⟨b, off + k, none⟩) hb3] at e3
      generalize z0.getD k 0 = y at e1 e2 e3
      have k1 : (k : Int) < (len0 : Int) := by omega
      go_wp2
      go_quiet (fail)
      go_wp2
      go_roundw
      case rel => exact ⟨k + 1, by omega, by go_num, below_drewN hwr _⟩
      case measure => simp [intOf]; omega
    · obtain rfl : k = len0 := by omega
      have e1 := hwr.cell (p := ⟨g, k, none⟩) hg
      rw [hl0] at e1
      have hbw : Below w.heap.size w wr := hbel.trans (hwr.mono hbel.size)
      rcases HL.out with ⟨q1, rfl⟩ | ⟨q1, q2, rfl⟩ | ⟨q1, q2, q3, rfl⟩ | ⟨q1, q2, q3, rfl⟩
      · go_wp2
        go_ret
        exact ⟨rfl, hbw⟩
      · go_wp2_with fail
        refine (ns_at192 _).mono ?_
        rintro e w5 ⟨rfl, hw⟩
        obtain rfl := hw.symm
        go_wp2_with fail
        refine (ns_true r _ q1 q2).mono ?_
        rintro e w5 ⟨rfl, hw⟩
        obtain rfl := hw.symm
        go_wp2_with fail
        refine (nc_at192 _).mono ?_
        rintro e w5 ⟨rfl, hw⟩
        obtain rfl := hw.symm
        go_wp2_with fail
        refine (nch_true r _ q1 (nameChar_of_start q2)).mono ?_
        rintro e w5 ⟨rfl, hw⟩
        obtain rfl := hw.symm
        go_wp2
        go_ret
        exact ⟨rfl, hbw⟩
      · go_wp2_with fail
        refine (ns_at183 _).mono ?_
        rintro e w5 ⟨rfl, hw⟩
        obtain rfl := hw.symm
        go_wp2_with fail
        refine (ns_false r _ q1 q2).mono ?_
        rintro e w5 ⟨rfl, hw⟩
        obtain rfl := hw.symm
        go_wp2_with fail
        refine (nc_at183 _).mono ?_
        rintro e w5 ⟨rfl, hw⟩
        obtain rfl := hw.symm
        go_wp2_with fail
        refine (nch_true r _ q1 q3).mono ?_
        rintro e w5 ⟨rfl, hw⟩
        obtain rfl := hw.symm
        go_wp2
        go_ret
        exact ⟨rfl, hbw⟩
      · go_wp2_with fail
        refine (ns_at215 _).mono ?_
        rintro e w5 ⟨rfl, hw⟩
        obtain rfl := hw.symm
        go_wp2_with fail
        refine (ns_false r _ q1 q2).mono ?_
        rintro e w5 ⟨rfl, hw⟩
        obtain rfl := hw.symm
        go_wp2_with fail
        refine (nc_at215 _).mono ?_
        rintro e w5 ⟨rfl, hw⟩
        obtain rfl := hw.symm
        go_wp2_with fail
        refine (nch_false r _ q1 q3).mono ?_
        rintro e w5 ⟨rfl, hw⟩
        obtain rfl := hw.symm
        go_wp2
        go_ret
        exact ⟨rfl, hbw⟩

set_option maxHeartbeats 1000000 in
theorem law_empty (a0 : Option Addr) (cap0 : Nat) (hnone : a0 = none → cap0 = 0) (a1 a2 a3 : Int) (w : World)
    (h1 : 0 ≤ a1) (h1' : a1 ≤ 255) (h2 : 0 ≤ a2) (h2' : a2 ≤ 255) (h3 : -2147483648 ≤ a3) (h3' : a3 ≤ 2147483647) :
    Calls Yba.prog 4 #[.slice a0 0 cap0, .int .u8 a1, .int .u8 a2, .int .i32 a3] w fun e w' => e = .returned (.bool true) ∧ Below w.heap.size w w' := by
  obtain ⟨i0, hi, hz0, hz1, hz2⟩ := info_parts Yba.info5
  have Hnone : Hid _ := hnone
  clear hnone
  go_enter Yba.func4, Yba.ntmps4
  go_wp2_with (first | (at_builtin; refine wpList_append_src _ rfl _ _ 22 rfl w.heap.size 5 i0 (.int .u8 0) 1 1 Yba.underlying22 hi hz0 hz1 hz2 rfl (by decide) _ _ _ rfl (World.ownsRow_nil _ _ _ _) a0 0 cap0 [] rfl ?c0 ?c1 ?c2 ?c3 ?c4 ?c5 ?c6 ?_) | fail)
  case c0 => intro h; simp [Hnone.out h]
  case c1 => rfl
  case c2 => intro ad had j u hj; simp at hj
  case c3 => intro u hu; cases hu
  case c4 => unfold maxLen; omega
  case c5 => omega
  case c6 => exact Nat.le_refl _
  intro v w1 hown _ hgrow
  go_wp2_with fail
  refine (rune_any a1 a2 a3 _ h1 h1' h2 h2' h3 h3').mono ?_
  rintro e w2 ⟨r, o, rfl, hr0, hr1, hw⟩
  obtain rfl := hw.symm
  go_wp2_with fail
  have hsz1 := hgrow.size
  refine (latin_any w.heap.size v 0 [] r _ (hown.alloc o) (by omega) (by simp; omega)).mono ?_
  rintro e w3 ⟨v', bb, rfl, hlat, hout, hd, hbel3⟩
  have hbel : Below w.heap.size w w3 := (((Below.refl _ w).grown hgrow (Nat.le_refl _) (fun k hk => by cases hk)).alloc hsz1 o).trans hbel3
  obtain ⟨g, cap, hv', _, hg, _, _, hc⟩ := own_shape hout (by omega)
  have hl0 := hc 0 (by omega)
  simp only [List.nil_append, List.getElem?_cons_zero] at hl0
  have HL : Hid _ := hlat
  clear hc hout hd hbel3 hown hgrow hlat
  rw [hv']
  clear hv'
  go_wp2_with fail
  go_loopw [12] (fun i wr => i = .int .i64 0 ∧ Below w3.heap.size w3 wr) (fun i _ => 0)
  case atStart => exact ⟨rfl, Below.refl _ _⟩
  case round =>
      obtain ⟨rfl, hwr⟩ := hrel
      have e1 := hwr.cell (p := ⟨g, 0, none⟩) hg
      rw [hl0] at e1
      have hbw : Below w.heap.size w wr := hbel.trans (hwr.mono hbel.size)
      rcases HL.out with ⟨q1, rfl⟩ | ⟨q1, q2, rfl⟩ | ⟨q1, q2, q3, rfl⟩ | ⟨q1, q2, q3, rfl⟩
      · go_wp2
        go_ret
        exact ⟨rfl, hbw⟩
      · go_wp2_with fail
        refine (ns_at192 _).mono ?_
        rintro e w5 ⟨rfl, hw⟩
        obtain rfl := hw.symm
        go_wp2_with fail
        refine (ns_true r _ q1 q2).mono ?_
        rintro e w5 ⟨rfl, hw⟩
        obtain rfl := hw.symm
        go_wp2_with fail
        refine (nc_at192 _).mono ?_
        rintro e w5 ⟨rfl, hw⟩
        obtain rfl := hw.symm
        go_wp2_with fail
        refine (nch_true r _ q1 (nameChar_of_start q2)).mono ?_
        rintro e w5 ⟨rfl, hw⟩
        obtain rfl := hw.symm
        go_wp2
        go_ret
        exact ⟨rfl, hbw⟩
      · go_wp2_with fail
        refine (ns_at183 _).mono ?_
        rintro e w5 ⟨rfl, hw⟩
        obtain rfl := hw.symm
        go_wp2_with fail
        refine (ns_false r _ q1 q2).mono ?_
        rintro e w5 ⟨rfl, hw⟩
        obtain rfl := hw.symm
        go_wp2_with fail
        refine (nc_at183 _).mono ?_
        rintro e w5 ⟨rfl, hw⟩
        obtain rfl := hw.symm
        go_wp2_with fail
        refine (nch_true r _ q1 q3).mono ?_
        rintro e w5 ⟨rfl, hw⟩
        obtain rfl := hw.symm
        go_wp2
        go_ret
        exact ⟨rfl, hbw⟩
      · go_wp2_with fail
        refine (ns_at215 _).mono ?_
        rintro e w5 ⟨rfl, hw⟩
        obtain rfl := hw.symm
        go_wp2_with fail
        refine (ns_false r _ q1 q2).mono ?_
        rintro e w5 ⟨rfl, hw⟩
        obtain rfl := hw.symm
        go_wp2_with fail
        refine (nc_at215 _).mono ?_
        rintro e w5 ⟨rfl, hw⟩
        obtain rfl := hw.symm
        go_wp2_with fail
        refine (nch_false r _ q1 q3).mono ?_
        rintro e w5 ⟨rfl, hw⟩
        obtain rfl := hw.symm
        go_wp2
        go_ret
        exact ⟨rfl, hbw⟩

theorem law_long (a0 : Option Addr) (len0 cap0 : Nat) (a1 a2 a3 : Int) (w : World) (h : 1024 < len0) (hm : len0 ≤ maxLen) :
    Calls Yba.prog 4 #[.slice a0 len0 cap0, .int .u8 a1, .int .u8 a2, .int .i32 a3] w fun e w' => e = .returned (.bool true) ∧ Below w.heap.size w w' := by
  unfold maxLen at hm
  go_enter Yba.func4, Yba.ntmps4
  go_wp2
  go_ret
  exact ⟨rfl, Below.refl _ _⟩

end Go.Proofs.Ybulkcjsi

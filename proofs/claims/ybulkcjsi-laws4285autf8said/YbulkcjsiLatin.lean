/-
  appendChar in latin1Chars: four ways.
-/
import Derived.Test.YbulkcjsiName
import Derived.Test.YbulkcjsiKeep
namespace Go.Proofs.Ybulkcjsi
open Go.RowKit
theorem Yba.info5b : (Yba.prog.info? 5).map (fun i => (i.zero, i.size, i.bytes)) = some (some (.int .u8 0), 1, 1) := by kernel_rfl

theorem nch_true (r : Int) (w : World) (h : 256 ≤ r) (hs : nameChar r = true) : Calls Yba.prog 10 #[.int .i32 r] w fun e w' => e = .returned (.bool true) ∧ w' = w := by
  have H := nameChar_any r w h
  rw [hs] at H
  exact H
theorem nch_false (r : Int) (w : World) (h : 256 ≤ r) (hs : nameChar r = false) : Calls Yba.prog 10 #[.int .i32 r] w fun e w' => e = .returned (.bool false) ∧ w' = w := by
  have H := nameChar_any r w h
  rw [hs] at H
  exact H

theorem one_cell (w : World) (x : Value) : ∀ j u, [x][j]? = some u → (w.alloc (.cells #[x] 5)).cell? ((⟨w.heap.size, 0, none⟩ : Addr).add j) = some u := by
  intro j u hj
  match j, hj with
  | 0, hj => simp at hj; subst hj; simp [Addr.add]

theorem keep_below {w w2 : World} {B : Nat} {v : Value} {n : Nat} {xs : List Value} {o : Obj} (hown : w.ownsRow B 5 1 v n xs) (hB : B ≤ w.heap.size) (hg : (w.alloc o).grownBy w2 v.ownBlock) : Below B w w2 :=
  ((Below.refl B w).alloc hB o).grown hg (by simp; omega) (fun k hk => ((hown.alloc o).lt k hk).1)

set_option maxHeartbeats 400000 in
theorem latin_low (B : Nat) (v : Value) (n : Nat) (xs : List Value) (r : Int) (w : World) (hown : w.ownsRow B 5 1 v n xs) (hn : n ≤ 1024) (hB : B ≤ w.heap.size) (h1 : r ≤ 255) :
    Calls Yba.prog 7 #[.int .u8 1, v, .int .i32 r] w fun e w' => ∃ v', e = .returned v' ∧ w'.ownsRow B 5 1 v' (n + 1) (xs ++ [.int .u8 (r % 256)]) ∧ w'.ownsRow B 5 1 v n xs ∧ Below B w w' := by
  obtain ⟨i0, hi, hz0, hz1, hz2⟩ := info_parts Yba.info5b
  go_enter Yba.func7, Yba.ntmps7
  go_wp2_with (at_builtin; refine wpList_append_keep _ rfl _ _ 22 rfl B 5 i0 (.int .u8 0) 1 1 Yba.underlying22 hi hz0 hz1 hz2 rfl (by decide) _ _ _ rfl (hown.alloc _) ⟨w.heap.size, 0, none⟩ 1 1 [.int .u8 (r % 256)] rfl rfl ?c1 ?c2 ?c3 ?c4 ?c5 ?_)
  case c1 => exact one_cell _ _
  case c2 => intro u hu; simp at hu; subst hu; rfl
  case c3 => unfold maxLen; omega
  case c4 => omega
  case c5 => simp; omega
  intro v' w2 ho hk hg
  go_wp2
  go_ret
  exact ⟨_, rfl, ho, hk, keep_below hown hB hg⟩

set_option maxHeartbeats 400000 in
theorem latin_start (B : Nat) (v : Value) (n : Nat) (xs : List Value) (r : Int) (w : World) (hown : w.ownsRow B 5 1 v n xs) (hn : n ≤ 1024) (hB : B ≤ w.heap.size) (hr : 256 ≤ r) (hs : nameStart r = true) :
    Calls Yba.prog 7 #[.int .u8 1, v, .int .i32 r] w fun e w' => ∃ v', e = .returned v' ∧ w'.ownsRow B 5 1 v' (n + 1) (xs ++ [.int .u8 (192)]) ∧ w'.ownsRow B 5 1 v n xs ∧ Below B w w' := by
  obtain ⟨i0, hi, hz0, hz1, hz2⟩ := info_parts Yba.info5b
  go_enter Yba.func7, Yba.ntmps7
  go_wp2_with fail
  refine (ns_true r _ hr hs).mono ?_
  rintro e w' ⟨rfl, hw⟩
  obtain rfl := hw.symm
  go_wp2_with (at_builtin; refine wpList_append_keep _ rfl _ _ 22 rfl B 5 i0 (.int .u8 0) 1 1 Yba.underlying22 hi hz0 hz1 hz2 rfl (by decide) _ _ _ rfl (hown.alloc _) ⟨w.heap.size, 0, none⟩ 1 1 [.int .u8 (192)] rfl rfl ?c1 ?c2 ?c3 ?c4 ?c5 ?_)
  case c1 => exact one_cell _ _
  case c2 => intro u hu; simp at hu; subst hu; rfl
  case c3 => unfold maxLen; omega
  case c4 => omega
  case c5 => simp; omega
  intro v' w2 ho hk hg
  go_wp2
  go_ret
  exact ⟨_, rfl, ho, hk, keep_below hown hB hg⟩

set_option maxHeartbeats 400000 in
theorem latin_char (B : Nat) (v : Value) (n : Nat) (xs : List Value) (r : Int) (w : World) (hown : w.ownsRow B 5 1 v n xs) (hn : n ≤ 1024) (hB : B ≤ w.heap.size) (hr : 256 ≤ r) (hs : nameStart r = false) (hc : nameChar r = true) :
    Calls Yba.prog 7 #[.int .u8 1, v, .int .i32 r] w fun e w' => ∃ v', e = .returned v' ∧ w'.ownsRow B 5 1 v' (n + 1) (xs ++ [.int .u8 (183)]) ∧ w'.ownsRow B 5 1 v n xs ∧ Below B w w' := by
  obtain ⟨i0, hi, hz0, hz1, hz2⟩ := info_parts Yba.info5b
  go_enter Yba.func7, Yba.ntmps7
  go_wp2_with fail
  refine (ns_false r _ hr hs).mono ?_
  rintro e w' ⟨rfl, hw⟩
  obtain rfl := hw.symm
  go_wp2_with fail
  refine (nch_true r _ hr hc).mono ?_
  rintro e w' ⟨rfl, hw⟩
  obtain rfl := hw.symm
  go_wp2_with (at_builtin; refine wpList_append_keep _ rfl _ _ 22 rfl B 5 i0 (.int .u8 0) 1 1 Yba.underlying22 hi hz0 hz1 hz2 rfl (by decide) _ _ _ rfl (hown.alloc _) ⟨w.heap.size, 0, none⟩ 1 1 [.int .u8 (183)] rfl rfl ?c1 ?c2 ?c3 ?c4 ?c5 ?_)
  case c1 => exact one_cell _ _
  case c2 => intro u hu; simp at hu; subst hu; rfl
  case c3 => unfold maxLen; omega
  case c4 => omega
  case c5 => simp; omega
  intro v' w2 ho hk hg
  go_wp2
  go_ret
  exact ⟨_, rfl, ho, hk, keep_below hown hB hg⟩

set_option maxHeartbeats 400000 in
theorem latin_none (B : Nat) (v : Value) (n : Nat) (xs : List Value) (r : Int) (w : World) (hown : w.ownsRow B 5 1 v n xs) (hn : n ≤ 1024) (hB : B ≤ w.heap.size) (hr : 256 ≤ r) (hs : nameStart r = false) (hc : nameChar r = false) :
    Calls Yba.prog 7 #[.int .u8 1, v, .int .i32 r] w fun e w' => ∃ v', e = .returned v' ∧ w'.ownsRow B 5 1 v' (n + 1) (xs ++ [.int .u8 (215)]) ∧ w'.ownsRow B 5 1 v n xs ∧ Below B w w' := by
  obtain ⟨i0, hi, hz0, hz1, hz2⟩ := info_parts Yba.info5b
  go_enter Yba.func7, Yba.ntmps7
  go_wp2_with fail
  refine (ns_false r _ hr hs).mono ?_
  rintro e w' ⟨rfl, hw⟩
  obtain rfl := hw.symm
  go_wp2_with fail
  refine (nch_false r _ hr hc).mono ?_
  rintro e w' ⟨rfl, hw⟩
  obtain rfl := hw.symm
  go_wp2_with (at_builtin; refine wpList_append_keep _ rfl _ _ 22 rfl B 5 i0 (.int .u8 0) 1 1 Yba.underlying22 hi hz0 hz1 hz2 rfl (by decide) _ _ _ rfl (hown.alloc _) ⟨w.heap.size, 0, none⟩ 1 1 [.int .u8 (215)] rfl rfl ?c1 ?c2 ?c3 ?c4 ?c5 ?_)
  case c1 => exact one_cell _ _
  case c2 => intro u hu; simp at hu; subst hu; rfl
  case c3 => unfold maxLen; omega
  case c4 => omega
  case c5 => simp; omega
  intro v' w2 ho hk hg
  go_wp2
  go_ret
  exact ⟨_, rfl, ho, hk, keep_below hown hB hg⟩

end Go.Proofs.Ybulkcjsi

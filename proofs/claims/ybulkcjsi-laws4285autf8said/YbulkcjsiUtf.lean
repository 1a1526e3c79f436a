/-
  utf8.AppendRune onto a row of the call's own that is read again behind it; appendChar in utf8Chars.
-/
import Derived.Test.YbulkcjsiProg
import Derived.Test.YbulkcjsiKeep
import Derived.Lib.RuneBytes
namespace Go.Proofs.Ybulkcjsi
open Go.RowKit
theorem Yba.info5u : (Yba.prog.info? 5).map (fun i => (i.zero, i.size, i.bytes)) = some (some (.int .u8 0), 1, 1) := by kernel_rfl

theorem new_cells (w : World) (l : List Value) : ∀ j u, l[j]? = some u → (w.alloc (.cells l.toArray 5)).cell? ((⟨w.heap.size, 0, none⟩ : Addr).add j) = some u := by
  intro j u hj
  rw [Addr.add_lit, cell_of_row _ w.heap.size (0 + j) l.toArray 5 (0, 0) (heap_alloc_new w _)]
  simpa using hj

theorem keep_below_u {w w2 : World} {B : Nat} {v : Value} {n : Nat} {xs : List Value} {o : Obj} (hown : w.ownsRow B 5 1 v n xs) (hB : B ≤ w.heap.size) (hg : (w.alloc o).grownBy w2 v.ownBlock) : Below B w w2 :=
  ((Below.refl B w).alloc hB o).grown hg (by simp; omega) (fun k hk => ((hown.alloc o).lt k hk).1)

set_option maxHeartbeats 1000000 in
theorem app_one (B : Nat) (v : Value) (n : Nat) (xs : List Value) (r : Int) (w : World) (hown : w.ownsRow B 5 1 v n xs) (hn : n ≤ 1024) (hB : B ≤ w.heap.size) (h0 : 0 ≤ r) (h1 : r ≤ 127) :
    Calls Yba.prog 13 #[v, .int .i32 r] w fun e w' => ∃ v', e = .returned v' ∧ w'.ownsRow B 5 1 v' (n + 1) (xs ++ [.int .u8 (r)]) ∧ w'.ownsRow B 5 1 v n xs ∧ Below B w w' := by
  obtain ⟨i0, hi, hz0, hz1, hz2⟩ := info_parts Yba.info5u
  go_enter Yba.func13, Yba.ntmps13
  go_wp2_with (at_builtin; refine wpList_append_keep _ rfl _ _ 22 rfl B 5 i0 (.int .u8 0) 1 1 Yba.underlying22 hi hz0 hz1 hz2 rfl (by decide) _ _ _ rfl (hown.alloc _) ⟨w.heap.size, 0, none⟩ 1 1 [.int .u8 (r)] rfl rfl ?c1 ?c2 ?c3 ?c4 ?c5 ?_)
  case c1 => exact new_cells w [.int .u8 (r)]
  case c2 => intro u hu; simp at hu; rcases hu with rfl <;> rfl
  case c3 => unfold maxLen; omega
  case c4 => omega
  case c5 => simp; omega
  intro v' w2 ho hk hg
  go_wp2
  go_ret
  exact ⟨_, rfl, ho, hk, keep_below_u hown hB hg⟩

set_option maxHeartbeats 1000000 in
theorem app_two (B : Nat) (v : Value) (n : Nat) (xs : List Value) (r : Int) (w : World) (hown : w.ownsRow B 5 1 v n xs) (hn : n ≤ 1024) (hB : B ≤ w.heap.size) (h0 : 128 ≤ r) (h1 : r ≤ 2047) :
    Calls Yba.prog 15 #[v, .int .i32 r] w fun e w' => ∃ v', e = .returned v' ∧ w'.ownsRow B 5 1 v' (n + 2) (xs ++ [.int .u8 (192 + r / 64), .int .u8 (128 + r % 64)]) ∧ w'.ownsRow B 5 1 v n xs ∧ Below B w w' := by
  obtain ⟨i0, hi, hz0, hz1, hz2⟩ := info_parts Yba.info5u
  go_enter Yba.func15, Yba.ntmps15
  go_wp2_with (at_builtin; refine wpList_append_keep _ rfl _ _ 22 rfl B 5 i0 (.int .u8 0) 1 1 Yba.underlying22 hi hz0 hz1 hz2 rfl (by decide) _ _ _ rfl (hown.alloc _) ⟨w.heap.size, 0, none⟩ 2 2 [.int .u8 (192 + r / 64), .int .u8 (128 + r % 64)] rfl rfl ?c1 ?c2 ?c3 ?c4 ?c5 ?_)
  case c1 => exact new_cells w [.int .u8 (192 + r / 64), .int .u8 (128 + r % 64)]
  case c2 => intro u hu; simp at hu; rcases hu with rfl | rfl <;> rfl
  case c3 => unfold maxLen; omega
  case c4 => omega
  case c5 => simp; omega
  intro v' w2 ho hk hg
  go_wp2
  go_ret
  exact ⟨_, rfl, ho, hk, keep_below_u hown hB hg⟩

set_option maxHeartbeats 1000000 in
theorem app_three_lo (B : Nat) (v : Value) (n : Nat) (xs : List Value) (r : Int) (w : World) (hown : w.ownsRow B 5 1 v n xs) (hn : n ≤ 1024) (hB : B ≤ w.heap.size) (h0 : 2048 ≤ r) (h1 : r < 55296) :
    Calls Yba.prog 15 #[v, .int .i32 r] w fun e w' => ∃ v', e = .returned v' ∧ w'.ownsRow B 5 1 v' (n + 3) (xs ++ [.int .u8 (224 + r / 4096), .int .u8 (128 + r / 64 % 64), .int .u8 (128 + r % 64)]) ∧ w'.ownsRow B 5 1 v n xs ∧ Below B w w' := by
  obtain ⟨i0, hi, hz0, hz1, hz2⟩ := info_parts Yba.info5u
  go_enter Yba.func15, Yba.ntmps15
  go_wp2_with (at_builtin; refine wpList_append_keep _ rfl _ _ 22 rfl B 5 i0 (.int .u8 0) 1 1 Yba.underlying22 hi hz0 hz1 hz2 rfl (by decide) _ _ _ rfl (hown.alloc _) ⟨w.heap.size, 0, none⟩ 3 3 [.int .u8 (224 + r / 4096), .int .u8 (128 + r / 64 % 64), .int .u8 (128 + r % 64)] rfl rfl ?c1 ?c2 ?c3 ?c4 ?c5 ?_)
  case c1 => exact new_cells w [.int .u8 (224 + r / 4096), .int .u8 (128 + r / 64 % 64), .int .u8 (128 + r % 64)]
  case c2 => intro u hu; simp at hu; rcases hu with rfl | rfl | rfl <;> rfl
  case c3 => unfold maxLen; omega
  case c4 => omega
  case c5 => simp; omega
  intro v' w2 ho hk hg
  go_wp2
  go_ret
  exact ⟨_, rfl, ho, hk, keep_below_u hown hB hg⟩

set_option maxHeartbeats 1000000 in
theorem app_three_hi (B : Nat) (v : Value) (n : Nat) (xs : List Value) (r : Int) (w : World) (hown : w.ownsRow B 5 1 v n xs) (hn : n ≤ 1024) (hB : B ≤ w.heap.size) (h0 : 57343 < r) (h1 : r ≤ 65535) :
    Calls Yba.prog 15 #[v, .int .i32 r] w fun e w' => ∃ v', e = .returned v' ∧ w'.ownsRow B 5 1 v' (n + 3) (xs ++ [.int .u8 (224 + r / 4096), .int .u8 (128 + r / 64 % 64), .int .u8 (128 + r % 64)]) ∧ w'.ownsRow B 5 1 v n xs ∧ Below B w w' := by
  obtain ⟨i0, hi, hz0, hz1, hz2⟩ := info_parts Yba.info5u
  go_enter Yba.func15, Yba.ntmps15
  go_wp2_with (at_builtin; refine wpList_append_keep _ rfl _ _ 22 rfl B 5 i0 (.int .u8 0) 1 1 Yba.underlying22 hi hz0 hz1 hz2 rfl (by decide) _ _ _ rfl (hown.alloc _) ⟨w.heap.size, 0, none⟩ 3 3 [.int .u8 (224 + r / 4096), .int .u8 (128 + r / 64 % 64), .int .u8 (128 + r % 64)] rfl rfl ?c1 ?c2 ?c3 ?c4 ?c5 ?_)
  case c1 => exact new_cells w [.int .u8 (224 + r / 4096), .int .u8 (128 + r / 64 % 64), .int .u8 (128 + r % 64)]
  case c2 => intro u hu; simp at hu; rcases hu with rfl | rfl | rfl <;> rfl
  case c3 => unfold maxLen; omega
  case c4 => omega
  case c5 => simp; omega
  intro v' w2 ho hk hg
  go_wp2
  go_ret
  exact ⟨_, rfl, ho, hk, keep_below_u hown hB hg⟩

set_option maxHeartbeats 1000000 in
theorem app_four (B : Nat) (v : Value) (n : Nat) (xs : List Value) (r : Int) (w : World) (hown : w.ownsRow B 5 1 v n xs) (hn : n ≤ 1024) (hB : B ≤ w.heap.size) (h0 : 65536 ≤ r) (h1 : r ≤ 1114111) :
    Calls Yba.prog 15 #[v, .int .i32 r] w fun e w' => ∃ v', e = .returned v' ∧ w'.ownsRow B 5 1 v' (n + 4) (xs ++ [.int .u8 (240 + r / 262144), .int .u8 (128 + r / 4096 % 64), .int .u8 (128 + r / 64 % 64), .int .u8 (128 + r % 64)]) ∧ w'.ownsRow B 5 1 v n xs ∧ Below B w w' := by
  obtain ⟨i0, hi, hz0, hz1, hz2⟩ := info_parts Yba.info5u
  go_enter Yba.func15, Yba.ntmps15
  go_wp2_with (at_builtin; refine wpList_append_keep _ rfl _ _ 22 rfl B 5 i0 (.int .u8 0) 1 1 Yba.underlying22 hi hz0 hz1 hz2 rfl (by decide) _ _ _ rfl (hown.alloc _) ⟨w.heap.size, 0, none⟩ 4 4 [.int .u8 (240 + r / 262144), .int .u8 (128 + r / 4096 % 64), .int .u8 (128 + r / 64 % 64), .int .u8 (128 + r % 64)] rfl rfl ?c1 ?c2 ?c3 ?c4 ?c5 ?_)
  case c1 => exact new_cells w [.int .u8 (240 + r / 262144), .int .u8 (128 + r / 4096 % 64), .int .u8 (128 + r / 64 % 64), .int .u8 (128 + r % 64)]
  case c2 => intro u hu; simp at hu; rcases hu with rfl | rfl | rfl | rfl <;> rfl
  case c3 => unfold maxLen; omega
  case c4 => omega
  case c5 => simp; omega
  intro v' w2 ho hk hg
  go_wp2
  go_ret
  exact ⟨_, rfl, ho, hk, keep_below_u hown hB hg⟩

set_option maxHeartbeats 1000000 in
theorem app_neg (B : Nat) (v : Value) (n : Nat) (xs : List Value) (r : Int) (w : World) (hown : w.ownsRow B 5 1 v n xs) (hn : n ≤ 1024) (hB : B ≤ w.heap.size) (h0 : -2147483648 ≤ r) (h1 : r < 0) :
    Calls Yba.prog 15 #[v, .int .i32 r] w fun e w' => ∃ v', e = .returned v' ∧ w'.ownsRow B 5 1 v' (n + 3) (xs ++ [.int .u8 (239), .int .u8 (191), .int .u8 (189)]) ∧ w'.ownsRow B 5 1 v n xs ∧ Below B w w' := by
  obtain ⟨i0, hi, hz0, hz1, hz2⟩ := info_parts Yba.info5u
  go_enter Yba.func15, Yba.ntmps15
  go_wp2_with (at_builtin; refine wpList_append_keep _ rfl _ _ 22 rfl B 5 i0 (.int .u8 0) 1 1 Yba.underlying22 hi hz0 hz1 hz2 rfl (by decide) _ _ _ rfl (hown.alloc _) ⟨w.heap.size, 0, none⟩ 3 3 [.int .u8 (239), .int .u8 (191), .int .u8 (189)] rfl rfl ?c1 ?c2 ?c3 ?c4 ?c5 ?_)
  case c1 => exact new_cells w [.int .u8 (239), .int .u8 (191), .int .u8 (189)]
  case c2 => intro u hu; simp at hu; rcases hu with rfl | rfl | rfl <;> rfl
  case c3 => unfold maxLen; omega
  case c4 => omega
  case c5 => simp; omega
  intro v' w2 ho hk hg
  go_wp2
  go_ret
  exact ⟨_, rfl, ho, hk, keep_below_u hown hB hg⟩

set_option maxHeartbeats 1000000 in
theorem app_sur (B : Nat) (v : Value) (n : Nat) (xs : List Value) (r : Int) (w : World) (hown : w.ownsRow B 5 1 v n xs) (hn : n ≤ 1024) (hB : B ≤ w.heap.size) (h0 : 55296 ≤ r) (h1 : r ≤ 57343) :
    Calls Yba.prog 15 #[v, .int .i32 r] w fun e w' => ∃ v', e = .returned v' ∧ w'.ownsRow B 5 1 v' (n + 3) (xs ++ [.int .u8 (239), .int .u8 (191), .int .u8 (189)]) ∧ w'.ownsRow B 5 1 v n xs ∧ Below B w w' := by
  obtain ⟨i0, hi, hz0, hz1, hz2⟩ := info_parts Yba.info5u
  go_enter Yba.func15, Yba.ntmps15
  go_wp2_with (at_builtin; refine wpList_append_keep _ rfl _ _ 22 rfl B 5 i0 (.int .u8 0) 1 1 Yba.underlying22 hi hz0 hz1 hz2 rfl (by decide) _ _ _ rfl (hown.alloc _) ⟨w.heap.size, 0, none⟩ 3 3 [.int .u8 (239), .int .u8 (191), .int .u8 (189)] rfl rfl ?c1 ?c2 ?c3 ?c4 ?c5 ?_)
  all_goals first
    | (intro v' w2 ho hk hg; go_wp2; go_ret; exact ⟨_, rfl, ho, hk, keep_below_u hown hB hg⟩)
    | (unfold maxLen; omega)
    | omega
    | exact ⟨rfl, rfl, rfl⟩
    | (simp; omega)

set_option maxHeartbeats 1000000 in
theorem app_big (B : Nat) (v : Value) (n : Nat) (xs : List Value) (r : Int) (w : World) (hown : w.ownsRow B 5 1 v n xs) (hn : n ≤ 1024) (hB : B ≤ w.heap.size) (h0 : 1114111 < r) (h1 : r ≤ 2147483647) :
    Calls Yba.prog 15 #[v, .int .i32 r] w fun e w' => ∃ v', e = .returned v' ∧ w'.ownsRow B 5 1 v' (n + 3) (xs ++ [.int .u8 (239), .int .u8 (191), .int .u8 (189)]) ∧ w'.ownsRow B 5 1 v n xs ∧ Below B w w' := by
  obtain ⟨i0, hi, hz0, hz1, hz2⟩ := info_parts Yba.info5u
  go_enter Yba.func15, Yba.ntmps15
  go_wp2_with (at_builtin; refine wpList_append_keep _ rfl _ _ 22 rfl B 5 i0 (.int .u8 0) 1 1 Yba.underlying22 hi hz0 hz1 hz2 rfl (by decide) _ _ _ rfl (hown.alloc _) ⟨w.heap.size, 0, none⟩ 3 3 [.int .u8 (239), .int .u8 (191), .int .u8 (189)] rfl rfl ?c1 ?c2 ?c3 ?c4 ?c5 ?_)
  case c1 => exact new_cells w [.int .u8 (239), .int .u8 (191), .int .u8 (189)]
  case c2 => intro u hu; simp at hu; rcases hu with rfl | rfl | rfl <;> rfl
  case c3 => unfold maxLen; omega
  case c4 => omega
  case c5 => simp; omega
  intro v' w2 ho hk hg
  go_wp2
  go_ret
  exact ⟨_, rfl, ho, hk, keep_below_u hown hB hg⟩

/-- appendRuneNonASCII: every rune but ASCII. -/
theorem app_other (B : Nat) (v : Value) (n : Nat) (xs : List Value) (r : Int) (w : World) (hown : w.ownsRow B 5 1 v n xs) (hn : n ≤ 1024) (hB : B ≤ w.heap.size) (h0 : -2147483648 ≤ r) (h1 : r ≤ 2147483647) (hx : r < 0 ∨ 128 ≤ r) :
    Calls Yba.prog 15 #[v, .int .i32 r] w fun e w' => ∃ v', e = .returned v' ∧ w'.ownsRow B 5 1 v' (n + (Lib.runeCells r).length) (xs ++ Lib.runeCells r) ∧ w'.ownsRow B 5 1 v n xs ∧ Below B w w' := by
  rcases (show (128 ≤ r ∧ r ≤ 2047) ∨ (2048 ≤ r ∧ r < 55296) ∨ (57343 < r ∧ r ≤ 65535) ∨ (65536 ≤ r ∧ r ≤ 1114111) ∨ r < 0 ∨ (55296 ≤ r ∧ r ≤ 57343) ∨ 1114111 < r from by omega) with ⟨g0, g1⟩ | ⟨g0, g1⟩ | ⟨g0, g1⟩ | ⟨g0, g1⟩ | g1 | ⟨g0, g1⟩ | g0
  · have q : Lib.runeCells r = [.int .u8 (192 + r / 64), .int .u8 (128 + r % 64)] := by unfold Lib.runeCells; rw [Lib.encodeRuneZ_two g0 g1]; rfl
    rw [q]; exact app_two B v n xs r w hown hn hB g0 g1
  · have q : Lib.runeCells r = [.int .u8 (224 + r / 4096), .int .u8 (128 + r / 64 % 64), .int .u8 (128 + r % 64)] := by unfold Lib.runeCells; rw [Lib.encodeRuneZ_three (.inl ⟨g0, g1⟩)]; rfl
    rw [q]; exact app_three_lo B v n xs r w hown hn hB g0 g1
  · have q : Lib.runeCells r = [.int .u8 (224 + r / 4096), .int .u8 (128 + r / 64 % 64), .int .u8 (128 + r % 64)] := by unfold Lib.runeCells; rw [Lib.encodeRuneZ_three (.inr ⟨g0, g1⟩)]; rfl
    rw [q]; exact app_three_hi B v n xs r w hown hn hB g0 g1
  · have q : Lib.runeCells r = [.int .u8 (240 + r / 262144), .int .u8 (128 + r / 4096 % 64), .int .u8 (128 + r / 64 % 64), .int .u8 (128 + r % 64)] := by unfold Lib.runeCells; rw [Lib.encodeRuneZ_four g0 g1]; rfl
    rw [q]; exact app_four B v n xs r w hown hn hB g0 g1
  · have q : Lib.runeCells r = [.int .u8 (239), .int .u8 (191), .int .u8 (189)] := by unfold Lib.runeCells; rw [Lib.encodeRuneZ_bad (.inl g1)]; rfl
    rw [q]; exact app_neg B v n xs r w hown hn hB h0 g1
  · have q : Lib.runeCells r = [.int .u8 (239), .int .u8 (191), .int .u8 (189)] := by unfold Lib.runeCells; rw [Lib.encodeRuneZ_bad (.inr (.inl ⟨g0, g1⟩))]; rfl
    rw [q]; exact app_sur B v n xs r w hown hn hB g0 g1
  · have q : Lib.runeCells r = [.int .u8 (239), .int .u8 (191), .int .u8 (189)] := by unfold Lib.runeCells; rw [Lib.encodeRuneZ_bad (.inr (.inr g0))]; rfl
    rw [q]; exact app_big B v n xs r w hown hn hB g0 h1

theorem app_ascii (B : Nat) (v : Value) (n : Nat) (xs : List Value) (r : Int) (w : World) (hown : w.ownsRow B 5 1 v n xs) (hn : n ≤ 1024) (hB : B ≤ w.heap.size) (h0 : 0 ≤ r) (h1 : r ≤ 127) :
    Calls Yba.prog 13 #[v, .int .i32 r] w fun e w' => ∃ v', e = .returned v' ∧ w'.ownsRow B 5 1 v' (n + (Lib.runeCells r).length) (xs ++ Lib.runeCells r) ∧ w'.ownsRow B 5 1 v n xs ∧ Below B w w' := by
  have q : Lib.runeCells r = [.int .u8 r] := by unfold Lib.runeCells; rw [Lib.encodeRuneZ_one h0 h1]; rfl
  rw [q]; exact app_one B v n xs r w hown hn hB h0 h1

set_option maxHeartbeats 400000 in
theorem app_neg13 (B : Nat) (v : Value) (n : Nat) (xs : List Value) (r : Int) (w : World) (hown : w.ownsRow B 5 1 v n xs) (hn : n ≤ 1024) (hB : B ≤ w.heap.size) (h0 : -2147483648 ≤ r) (h1 : r < 0) :
    Calls Yba.prog 13 #[v, .int .i32 r] w fun e w' => ∃ v', e = .returned v' ∧ w'.ownsRow B 5 1 v' (n + (Lib.runeCells r).length) (xs ++ Lib.runeCells r) ∧ w'.ownsRow B 5 1 v n xs ∧ Below B w w' := by
  go_enter Yba.func13, Yba.ntmps13
  go_wp2_with fail
  refine (app_other B v n xs r _ hown hn hB h0 (by omega) (by omega)).mono ?_
  rintro e w2 ⟨v', rfl, ho, hk, hb⟩
  go_wp2
  go_ret
  exact ⟨_, rfl, ho, hk, hb⟩

set_option maxHeartbeats 400000 in
theorem app_pos13 (B : Nat) (v : Value) (n : Nat) (xs : List Value) (r : Int) (w : World) (hown : w.ownsRow B 5 1 v n xs) (hn : n ≤ 1024) (hB : B ≤ w.heap.size) (h0 : 128 ≤ r) (h1 : r ≤ 2147483647) :
    Calls Yba.prog 13 #[v, .int .i32 r] w fun e w' => ∃ v', e = .returned v' ∧ w'.ownsRow B 5 1 v' (n + (Lib.runeCells r).length) (xs ++ Lib.runeCells r) ∧ w'.ownsRow B 5 1 v n xs ∧ Below B w w' := by
  go_enter Yba.func13, Yba.ntmps13
  go_wp2_with fail
  refine (app_other B v n xs r _ hown hn hB (by omega) h1 (by omega)).mono ?_
  rintro e w2 ⟨v', rfl, ho, hk, hb⟩
  go_wp2
  go_ret
  exact ⟨_, rfl, ho, hk, hb⟩

theorem app_any (B : Nat) (v : Value) (n : Nat) (xs : List Value) (r : Int) (w : World) (hown : w.ownsRow B 5 1 v n xs) (hn : n ≤ 1024) (hB : B ≤ w.heap.size) (h0 : -2147483648 ≤ r) (h1 : r ≤ 2147483647) :
    Calls Yba.prog 13 #[v, .int .i32 r] w fun e w' => ∃ v', e = .returned v' ∧ w'.ownsRow B 5 1 v' (n + (Lib.runeCells r).length) (xs ++ Lib.runeCells r) ∧ w'.ownsRow B 5 1 v n xs ∧ Below B w w' := by
  rcases (show r < 0 ∨ (0 ≤ r ∧ r ≤ 127) ∨ 128 ≤ r from by omega) with g | ⟨g, g'⟩ | g
  · exact app_neg13 B v n xs r w hown hn hB h0 g
  · exact app_ascii B v n xs r w hown hn hB g g'
  · exact app_pos13 B v n xs r w hown hn hB g h1

set_option maxHeartbeats 400000 in
/-- appendChar in utf8Chars. -/
theorem char_utf8 (B : Nat) (v : Value) (n : Nat) (xs : List Value) (r : Int) (w : World) (hown : w.ownsRow B 5 1 v n xs) (hn : n ≤ 1024) (hB : B ≤ w.heap.size) (h0 : -2147483648 ≤ r) (h1 : r ≤ 2147483647) :
    Calls Yba.prog 7 #[.int .u8 0, v, .int .i32 r] w fun e w' => ∃ v', e = .returned v' ∧ w'.ownsRow B 5 1 v' (n + (Lib.runeCells r).length) (xs ++ Lib.runeCells r) ∧ w'.ownsRow B 5 1 v n xs ∧ Below B w w' := by
  go_enter Yba.func7, Yba.ntmps7
  go_wp2_with fail
  refine (app_any B v n xs r _ hown hn hB h0 h1).mono ?_
  rintro e w2 ⟨v', rfl, ho, hk, hb⟩
  go_wp2
  go_ret
  exact ⟨_, rfl, ho, hk, hb⟩

end Go.Proofs.Ybulkcjsi

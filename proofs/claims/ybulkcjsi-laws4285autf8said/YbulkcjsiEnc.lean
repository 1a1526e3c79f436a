/-
  zzs4285aenc: the law's own encoder: the same bytes as 'Lib.encodeRuneZ' gives.
-/
import Derived.Test.YbulkcjsiProg
import Derived.WalkKit
import Derived.Lib.RuneBytes
namespace Go.Proofs.Ybulkcjsi
open Go.RowKit
set_option linter.unusedVariables false

theorem i32_and63 (x : Int) (h0 : 0 ≤ x) (h1 : x < 2147483648) : bits .and .i32 x 63 = x % 64 := bits_mask .i32 31 (by decide) wraps_i32 6 (by decide) x h0 h1
theorem i32_or128 (y : Int) (h0 : 0 ≤ y) (h1 : y < 64) : bits .or .i32 128 y = 128 + y := bits_join .i32 31 (by decide) wraps_i32 6 128 y (by decide) (by decide) (by decide) h0 h1 (by omega)
theorem i32_or224 (y : Int) (h0 : 0 ≤ y) (h1 : y < 16) : bits .or .i32 224 y = 224 + y := bits_join .i32 31 (by decide) wraps_i32 4 224 y (by decide) (by decide) (by decide) h0 h1 (by omega)
theorem i32_or240 (y : Int) (h0 : 0 ≤ y) (h1 : y < 8) : bits .or .i32 240 y = 240 + y := bits_join .i32 31 (by decide) wraps_i32 3 240 y (by decide) (by decide) (by decide) h0 h1 (by omega)

set_option maxHeartbeats 400000 in
theorem enc_one (r : Int) (w : World) (h0 : 0 ≤ r) (h1 : r ≤ 127) :
    Calls Yba.prog 8 #[.int .i32 r] w fun e w' => e = .returned (.slice (some ⟨w.heap.size, 0, none⟩) 1 1) ∧ w' = w.alloc (.cells #[.int .u8 (r)] 5) := by
  have t0 : decide (r < 0) = false := by simp; omega
  have t1 : decide (1114111 < r) = false := by simp; omega
  have t2 : decide (55296 ≤ r) = false := by simp; omega
  go_enter Yba.func8, Yba.ntmps8
  go_wp2
  go_ret
  exact ⟨rfl, rfl⟩

set_option maxHeartbeats 400000 in
theorem enc_two (r : Int) (w : World) (h0 : 128 ≤ r) (h1 : r ≤ 2047) :
    Calls Yba.prog 8 #[.int .i32 r] w fun e w' => e = .returned (.slice (some ⟨w.heap.size, 0, none⟩) 2 2) ∧ w' = w.alloc (.cells #[.int .u8 (192 + r / 64), .int .u8 (128 + r % 64)] 5) := by
  have t0 : decide (r < 0) = false := by simp; omega
  have t1 : decide (1114111 < r) = false := by simp; omega
  have t2 : decide (55296 ≤ r) = false := by simp; omega
  have m0 := i32_and63 r (by omega) (by omega)
  have o0 := i32_or128 (r % 64) (by omega) (by omega)
  go_enter Yba.func8, Yba.ntmps8
  go_wp2
  go_ret
  exact ⟨rfl, rfl⟩

set_option maxHeartbeats 400000 in
theorem enc_three_lo (r : Int) (w : World) (h0 : 2048 ≤ r) (h1 : r < 55296) :
    Calls Yba.prog 8 #[.int .i32 r] w fun e w' => e = .returned (.slice (some ⟨w.heap.size, 0, none⟩) 3 3) ∧ w' = w.alloc (.cells #[.int .u8 (224 + r / 4096), .int .u8 (128 + r / 64 % 64), .int .u8 (128 + r % 64)] 5) := by
  have t0 : decide (r < 0) = false := by simp; omega
  have t1 : decide (1114111 < r) = false := by simp; omega
  have t2 : decide (55296 ≤ r) = false := by simp; omega
  have m0 := i32_and63 r (by omega) (by omega)
  have o0 := i32_or128 (r % 64) (by omega) (by omega)
  have o3 := i32_or224 (r / 4096) (by omega) (by omega)
  have m1 := i32_and63 (r / 64) (by omega) (by omega)
  have o1 := i32_or128 (r / 64 % 64) (by omega) (by omega)
  go_enter Yba.func8, Yba.ntmps8
  go_wp2
  go_ret
  exact ⟨rfl, rfl⟩

set_option maxHeartbeats 400000 in
theorem enc_three_hi (r : Int) (w : World) (h0 : 57343 < r) (h1 : r ≤ 65535) :
    Calls Yba.prog 8 #[.int .i32 r] w fun e w' => e = .returned (.slice (some ⟨w.heap.size, 0, none⟩) 3 3) ∧ w' = w.alloc (.cells #[.int .u8 (224 + r / 4096), .int .u8 (128 + r / 64 % 64), .int .u8 (128 + r % 64)] 5) := by
  have t0 : decide (r < 0) = false := by simp; omega
  have t1 : decide (1114111 < r) = false := by simp; omega
  have t2 : decide (55296 ≤ r) = true := by simp; omega
  have t3 : decide (r ≤ 57343) = false := by simp; omega
  have m0 := i32_and63 r (by omega) (by omega)
  have o0 := i32_or128 (r % 64) (by omega) (by omega)
  have o3 := i32_or224 (r / 4096) (by omega) (by omega)
  have m1 := i32_and63 (r / 64) (by omega) (by omega)
  have o1 := i32_or128 (r / 64 % 64) (by omega) (by omega)
  go_enter Yba.func8, Yba.ntmps8
  go_wp2
  go_ret
  exact ⟨rfl, rfl⟩

set_option maxHeartbeats 400000 in
theorem enc_four (r : Int) (w : World) (h0 : 65536 ≤ r) (h1 : r ≤ 1114111) :
    Calls Yba.prog 8 #[.int .i32 r] w fun e w' => e = .returned (.slice (some ⟨w.heap.size, 0, none⟩) 4 4) ∧ w' = w.alloc (.cells #[.int .u8 (240 + r / 262144), .int .u8 (128 + r / 4096 % 64), .int .u8 (128 + r / 64 % 64), .int .u8 (128 + r % 64)] 5) := by
  have t0 : decide (r < 0) = false := by simp; omega
  have t1 : decide (1114111 < r) = false := by simp; omega
  have t2 : decide (55296 ≤ r) = true := by simp; omega
  have t3 : decide (r ≤ 57343) = false := by simp; omega
  have m0 := i32_and63 r (by omega) (by omega)
  have o0 := i32_or128 (r % 64) (by omega) (by omega)
  have m1 := i32_and63 (r / 64) (by omega) (by omega)
  have o1 := i32_or128 (r / 64 % 64) (by omega) (by omega)
  have o3 := i32_or240 (r / 262144) (by omega) (by omega)
  have m2 := i32_and63 (r / 4096) (by omega) (by omega)
  have o2 := i32_or128 (r / 4096 % 64) (by omega) (by omega)
  go_enter Yba.func8, Yba.ntmps8
  go_wp2
  go_ret
  exact ⟨rfl, rfl⟩

set_option maxHeartbeats 400000 in
theorem enc_neg (r : Int) (w : World) (h0 : -2147483648 ≤ r) (h1 : r < 0) :
    Calls Yba.prog 8 #[.int .i32 r] w fun e w' => e = .returned (.slice (some ⟨w.heap.size, 0, none⟩) 3 3) ∧ w' = w.alloc (.cells #[.int .u8 (239), .int .u8 (191), .int .u8 (189)] 5) := by
  have t0 : decide (r < 0) = true := by simp; omega
  go_enter Yba.func8, Yba.ntmps8
  go_wp2
  go_ret
  exact ⟨rfl, rfl⟩

set_option maxHeartbeats 400000 in
theorem enc_sur (r : Int) (w : World) (h0 : 55296 ≤ r) (h1 : r ≤ 57343) :
    Calls Yba.prog 8 #[.int .i32 r] w fun e w' => e = .returned (.slice (some ⟨w.heap.size, 0, none⟩) 3 3) ∧ w' = w.alloc (.cells #[.int .u8 (239), .int .u8 (191), .int .u8 (189)] 5) := by
  have t0 : decide (r < 0) = false := by simp; omega
  have t1 : decide (1114111 < r) = false := by simp; omega
  have t2 : decide (55296 ≤ r) = true := by simp; omega
  have t3 : decide (r ≤ 57343) = true := by simp; omega
  go_enter Yba.func8, Yba.ntmps8
  go_wp2
  go_ret
  exact ⟨rfl, rfl⟩

set_option maxHeartbeats 400000 in
theorem enc_big (r : Int) (w : World) (h0 : 1114111 < r) (h1 : r ≤ 2147483647) :
    Calls Yba.prog 8 #[.int .i32 r] w fun e w' => e = .returned (.slice (some ⟨w.heap.size, 0, none⟩) 3 3) ∧ w' = w.alloc (.cells #[.int .u8 (239), .int .u8 (191), .int .u8 (189)] 5) := by
  have t0 : decide (r < 0) = false := by simp; omega
  have t1 : decide (1114111 < r) = true := by simp; omega
  go_enter Yba.func8, Yba.ntmps8
  go_wp2
  go_ret
  exact ⟨rfl, rfl⟩

/-- Every rune: the bytes lie in a new block. -/
theorem enc_any (r : Int) (w : World) (h0 : -2147483648 ≤ r) (h1 : r ≤ 2147483647) :
    Calls Yba.prog 8 #[.int .i32 r] w fun e w' => e = .returned (.slice (some ⟨w.heap.size, 0, none⟩) (Lib.runeCells r).length (Lib.runeCells r).length) ∧ w' = w.alloc (.cells (Lib.runeCells r).toArray 5) := by
  rcases (show (0 ≤ r ∧ r ≤ 127) ∨ (128 ≤ r ∧ r ≤ 2047) ∨ (2048 ≤ r ∧ r < 55296) ∨ (57343 < r ∧ r ≤ 65535) ∨ (65536 ≤ r ∧ r ≤ 1114111) ∨ r < 0 ∨ (55296 ≤ r ∧ r ≤ 57343) ∨ 1114111 < r from by omega) with ⟨g0, g1⟩ | ⟨g0, g1⟩ | ⟨g0, g1⟩ | ⟨g0, g1⟩ | ⟨g0, g1⟩ | g1 | ⟨g0, g1⟩ | g0
  · have q : Lib.runeCells r = [.int .u8 (r)] := by unfold Lib.runeCells; rw [Lib.encodeRuneZ_one g0 g1]; rfl
    rw [q]; exact enc_one r w g0 g1
  · have q : Lib.runeCells r = [.int .u8 (192 + r / 64), .int .u8 (128 + r % 64)] := by unfold Lib.runeCells; rw [Lib.encodeRuneZ_two g0 g1]; rfl
    rw [q]; exact enc_two r w g0 g1
  · have q : Lib.runeCells r = [.int .u8 (224 + r / 4096), .int .u8 (128 + r / 64 % 64), .int .u8 (128 + r % 64)] := by unfold Lib.runeCells; rw [Lib.encodeRuneZ_three (.inl ⟨g0, g1⟩)]; rfl
    rw [q]; exact enc_three_lo r w g0 g1
  · have q : Lib.runeCells r = [.int .u8 (224 + r / 4096), .int .u8 (128 + r / 64 % 64), .int .u8 (128 + r % 64)] := by unfold Lib.runeCells; rw [Lib.encodeRuneZ_three (.inr ⟨g0, g1⟩)]; rfl
    rw [q]; exact enc_three_hi r w g0 g1
  · have q : Lib.runeCells r = [.int .u8 (240 + r / 262144), .int .u8 (128 + r / 4096 % 64), .int .u8 (128 + r / 64 % 64), .int .u8 (128 + r % 64)] := by unfold Lib.runeCells; rw [Lib.encodeRuneZ_four g0 g1]; rfl
    rw [q]; exact enc_four r w g0 g1
  · have q : Lib.runeCells r = [.int .u8 (239), .int .u8 (191), .int .u8 (189)] := by unfold Lib.runeCells; rw [Lib.encodeRuneZ_bad (.inl g1)]; rfl
    rw [q]; exact enc_neg r w h0 g1
  · have q : Lib.runeCells r = [.int .u8 (239), .int .u8 (191), .int .u8 (189)] := by unfold Lib.runeCells; rw [Lib.encodeRuneZ_bad (.inr (.inl ⟨g0, g1⟩))]; rfl
    rw [q]; exact enc_sur r w g0 g1
  · have q : Lib.runeCells r = [.int .u8 (239), .int .u8 (191), .int .u8 (189)] := by unfold Lib.runeCells; rw [Lib.encodeRuneZ_bad (.inr (.inr g0))]; rfl
    rw [q]; exact enc_big r w g0 h1

end Go.Proofs.Ybulkcjsi

/-
  (time.Time).Add, at a time without a monotonic reading.
-/
import Derived.Test.YbulkcjtkTime
namespace Go.Proofs.Ybulkcjtk
open Go.RowKit

theorem or_zero (x : Int) (h0 : 0 ≤ x) (h1 : x < 1000000000) : bits .or .u64 0 x = x := by
  obtain ⟨n, rfl⟩ := Int.eq_ofNat_of_zero_le h0
  have h := (bits_nat .u64 64 (by decide) wraps_u64 0 n (by decide) (by omega)).2
  simpa using h

set_option maxHeartbeats 400000 in
theorem nsec_any (b : Nat) (ns : Int) (w : World) (h0 : 0 ≤ ns) (h1 : ns < 1000000000) (hc : w.cell? ⟨b, 0, none⟩ = some (.int .u64 ns)) :
    Calls Yba.prog 15 #[.pointer (some ⟨b, 0, none⟩)] w fun e w' => e = .returned (.int .i32 ns) ∧ w' = w := by
  have m1 := mask_ns ns h0 h1
  go_enter Yba.func15, Yba.ntmps15
  go_wp2
  go_ret
  exact ⟨rfl, rfl⟩

set_option maxHeartbeats 400000 in
theorem sec_any (b : Nat) (ns sec : Int) (w : World) (h0 : 0 ≤ ns) (h1 : ns < 1000000000) (hc : w.cell? ⟨b, 0, none⟩ = some (.int .u64 ns)) (hs : w.cell? ⟨b, 1, none⟩ = some (.int .i64 sec)) :
    Calls Yba.prog 26 #[.pointer (some ⟨b, 0, none⟩)] w fun e w' => e = .returned (.int .i64 sec) ∧ w' = w := by
  have m1 := top_ns ns h0 h1
  go_enter Yba.func26, Yba.ntmps26
  go_wp2
  go_ret
  exact ⟨rfl, rfl⟩

set_option maxHeartbeats 400000 in
theorem addSec_pos (b : Nat) (ns sec k : Int) (w : World) (h0 : 0 ≤ ns) (h1 : ns < 1000000000) (h2 : -1000000000000000000 ≤ sec) (h3 : sec ≤ 1000000000000000000) (k0 : 0 < k) (k1 : k ≤ 9223372038)
    (hc : w.cell? ⟨b, 0, none⟩ = some (.int .u64 ns)) (hs : w.cell? ⟨b, 1, none⟩ = some (.int .i64 sec)) (hf : w.frozen? ⟨b, 1, none⟩ = false) :
    Calls Yba.prog 16 #[.pointer (some ⟨b, 0, none⟩), .int .i64 k] w fun e w' => e = .returned (.tuple #[]) ∧ w' = w.setCell ⟨b, 1, none⟩ (.int .i64 (sec + k)) := by
  have m1 := top_ns ns h0 h1
  have t1 : decide (sec < sec + k) = true := by simp; omega
  have t2 : decide (0 < k) = true := by simp; omega
  go_enter Yba.func16, Yba.ntmps16
  go_wp2
  go_end0
  exact ⟨rfl, rfl⟩

set_option maxHeartbeats 400000 in
theorem addSec_neg (b : Nat) (ns sec k : Int) (w : World) (h0 : 0 ≤ ns) (h1 : ns < 1000000000) (h2 : -1000000000000000000 ≤ sec) (h3 : sec ≤ 1000000000000000000) (k0 : k ≤ 0) (k1 : -9223372038 ≤ k)
    (hc : w.cell? ⟨b, 0, none⟩ = some (.int .u64 ns)) (hs : w.cell? ⟨b, 1, none⟩ = some (.int .i64 sec)) (hf : w.frozen? ⟨b, 1, none⟩ = false) :
    Calls Yba.prog 16 #[.pointer (some ⟨b, 0, none⟩), .int .i64 k] w fun e w' => e = .returned (.tuple #[]) ∧ w' = w.setCell ⟨b, 1, none⟩ (.int .i64 (sec + k)) := by
  have m1 := top_ns ns h0 h1
  have t1 : decide (sec < sec + k) = false := by simp; omega
  have t2 : decide (0 < k) = false := by simp; omega
  go_enter Yba.func16, Yba.ntmps16
  go_wp2
  go_end0
  exact ⟨rfl, rfl⟩

theorem addSec_any (b : Nat) (ns sec k : Int) (w : World) (h0 : 0 ≤ ns) (h1 : ns < 1000000000) (h2 : -1000000000000000000 ≤ sec) (h3 : sec ≤ 1000000000000000000) (k0 : -9223372038 ≤ k) (k1 : k ≤ 9223372038)
    (hc : w.cell? ⟨b, 0, none⟩ = some (.int .u64 ns)) (hs : w.cell? ⟨b, 1, none⟩ = some (.int .i64 sec)) (hf : w.frozen? ⟨b, 1, none⟩ = false) :
    Calls Yba.prog 16 #[.pointer (some ⟨b, 0, none⟩), .int .i64 k] w fun e w' => e = .returned (.tuple #[]) ∧ w' = w.setCell ⟨b, 1, none⟩ (.int .i64 (sec + k)) := by
  by_cases h : 0 < k
  · exact addSec_pos b ns sec k w h0 h1 h2 h3 h k1 hc hs hf
  · exact addSec_neg b ns sec k w h0 h1 h2 h3 (by omega) k0 hc hs hf
end Go.Proofs.Ybulkcjtk

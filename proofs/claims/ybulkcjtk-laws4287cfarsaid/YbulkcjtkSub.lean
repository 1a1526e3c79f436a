/-
  (time.Time).Equal, Before, Sub, at times without a monotonic reading.
-/
import Derived.Test.YbulkcjtkAdd2
import Derived.WalkSpells
import Derived.Deep.RegionHeld3
namespace Go.Proofs.Ybulkcjtk
open Go.RowKit

theorem top_two (a b : Int) (h0 : 0 ≤ a) (h1 : a < 1000000000) (g0 : 0 ≤ b) (g1 : b < 1000000000) : bits .and .u64 (bits .and .u64 a b) 9223372036854775808 = 0 := by
  obtain ⟨m, rfl⟩ := Int.eq_ofNat_of_zero_le h0
  obtain ⟨n, rfl⟩ := Int.eq_ofNat_of_zero_le g0
  rw [(bits_nat .u64 64 (by decide) wraps_u64 m n (by omega) (by omega)).1]
  refine top_ns _ (Int.natCast_nonneg _) ?_
  have := @Nat.and_le_left m n
  omega

set_option maxHeartbeats 400000 in
theorem equal_same (ns sec : Int) (w : World) (h0 : 0 ≤ ns) (h1 : ns < 1000000000) :
    Calls Yba.prog 27 #[.agg #[.int .u64 ns, .int .i64 sec, .pointer none], .agg #[.int .u64 ns, .int .i64 sec, .pointer none]] w fun e w' => e = .returned (.bool true) ∧ ∃ c1 c2, w' = (w.alloc (.cells c1 27)).alloc (.cells c2 27) := by
  have m3 := top_two ns ns h0 h1 h0 h1
  go_enter Yba.func27, Yba.ntmps27
  go_wp2_with (first | (go_at_call 26; refine (sec_any _ ns sec _ h0 h1 (by simp) (by simp)).mono ?_; rintro e w1 ⟨rfl, hw⟩; obtain rfl := hw.symm; clear hw) | (go_at_call 15; refine (nsec_any _ ns _ h0 h1 (by simp)).mono ?_; rintro e w1 ⟨rfl, hw⟩; obtain rfl := hw.symm; clear hw))
  go_ret
  exact ⟨rfl, _, _, rfl⟩

set_option maxHeartbeats 400000 in
theorem equal_sec (a s b t : Int) (w : World) (h0 : 0 ≤ a) (h1 : a < 1000000000) (g0 : 0 ≤ b) (g1 : b < 1000000000) (hne : s ≠ t) :
    Calls Yba.prog 27 #[.agg #[.int .u64 a, .int .i64 s, .pointer none], .agg #[.int .u64 b, .int .i64 t, .pointer none]] w fun e w' => e = .returned (.bool false) ∧ ∃ c1 c2, w' = (w.alloc (.cells c1 27)).alloc (.cells c2 27) := by
  have m3 := top_two a b h0 h1 g0 g1
  have t1 : (s == t) = false := by simp [hne]
  clear hne
  go_enter Yba.func27, Yba.ntmps27
  go_wp2_with fail
  refine (sec_any _ a s _ h0 h1 (by simp) (by simp)).mono ?_
  rintro e w1 ⟨rfl, hw⟩; obtain rfl := hw.symm; clear hw
  go_wp2_with fail
  refine (sec_any _ b t _ g0 g1 (by simp) (by simp)).mono ?_
  rintro e w1 ⟨rfl, hw⟩; obtain rfl := hw.symm; clear hw
  go_wp2
  go_ret
  exact ⟨rfl, _, _, rfl⟩

set_option maxHeartbeats 400000 in
theorem equal_ns (a s b : Int) (w : World) (h0 : 0 ≤ a) (h1 : a < 1000000000) (g0 : 0 ≤ b) (g1 : b < 1000000000) (hne : a ≠ b) :
    Calls Yba.prog 27 #[.agg #[.int .u64 a, .int .i64 s, .pointer none], .agg #[.int .u64 b, .int .i64 s, .pointer none]] w fun e w' => e = .returned (.bool false) ∧ ∃ c1 c2, w' = (w.alloc (.cells c1 27)).alloc (.cells c2 27) := by
  have m3 := top_two a b h0 h1 g0 g1
  have t1 : (a == b) = false := by simp [hne]
  clear hne
  go_enter Yba.func27, Yba.ntmps27
  go_wp2_with fail
  refine (sec_any _ a s _ h0 h1 (by simp) (by simp)).mono ?_
  rintro e w1 ⟨rfl, hw⟩; obtain rfl := hw.symm; clear hw
  go_wp2_with fail
  refine (sec_any _ b s _ g0 g1 (by simp) (by simp)).mono ?_
  rintro e w1 ⟨rfl, hw⟩; obtain rfl := hw.symm; clear hw
  go_wp2_with fail
  refine (nsec_any _ a _ h0 h1 (by simp)).mono ?_
  rintro e w1 ⟨rfl, hw⟩; obtain rfl := hw.symm; clear hw
  go_wp2_with fail
  refine (nsec_any _ b _ g0 g1 (by simp)).mono ?_
  rintro e w1 ⟨rfl, hw⟩; obtain rfl := hw.symm; clear hw
  go_wp2
  go_ret
  exact ⟨rfl, _, _, rfl⟩

theorem equal_diff (M N a s b t : Int) (w : World) (hM : TM M a s) (hN : TM N b t) (hne : M ≠ N) :
    Calls Yba.prog 27 #[.agg #[.int .u64 a, .int .i64 s, .pointer none], .agg #[.int .u64 b, .int .i64 t, .pointer none]] w fun e w' => e = .returned (.bool false) ∧ ∃ c1 c2, w' = (w.alloc (.cells c1 27)).alloc (.cells c2 27) := by
  obtain ⟨h0, h1, rfl⟩ := hM
  obtain ⟨g0, g1, rfl⟩ := hN
  by_cases h : s = t
  · subst h
    exact equal_ns a s b w h0 h1 g0 g1 (by omega)
  · exact equal_sec a s b t w h0 h1 g0 g1 h

set_option maxHeartbeats 400000 in
theorem before_sec (a s b t : Int) (w : World) (h0 : 0 ≤ a) (h1 : a < 1000000000) (g0 : 0 ≤ b) (g1 : b < 1000000000) (hlt : t < s) :
    Calls Yba.prog 28 #[.agg #[.int .u64 a, .int .i64 s, .pointer none], .agg #[.int .u64 b, .int .i64 t, .pointer none]] w fun e w' => e = .returned (.bool false) ∧ ∃ c1 c2, w' = (w.alloc (.cells c1 27)).alloc (.cells c2 27) := by
  have m3 := top_two a b h0 h1 g0 g1
  have t1 : decide (s < t) = false := by simp; omega
  have t2 : (s == t) = false := by simp; omega
  go_enter Yba.func28, Yba.ntmps28
  go_wp2_with fail
  refine (sec_any _ a s _ h0 h1 (by simp) (by simp)).mono ?_
  rintro e w1 ⟨rfl, hw⟩; obtain rfl := hw.symm; clear hw
  go_wp2_with fail
  refine (sec_any _ b t _ g0 g1 (by simp) (by simp)).mono ?_
  rintro e w1 ⟨rfl, hw⟩; obtain rfl := hw.symm; clear hw
  go_wp2
  go_ret
  exact ⟨rfl, _, _, rfl⟩

set_option maxHeartbeats 400000 in
theorem before_ns (a s b : Int) (w : World) (h0 : 0 ≤ a) (h1 : a < 1000000000) (g0 : 0 ≤ b) (g1 : b < 1000000000) (hle : b ≤ a) :
    Calls Yba.prog 28 #[.agg #[.int .u64 a, .int .i64 s, .pointer none], .agg #[.int .u64 b, .int .i64 s, .pointer none]] w fun e w' => e = .returned (.bool false) ∧ ∃ c1 c2, w' = (w.alloc (.cells c1 27)).alloc (.cells c2 27) := by
  have m3 := top_two a b h0 h1 g0 g1
  have t1 : decide (s < s) = false := by simp
  have t3 : decide (a < b) = false := by simp; omega
  go_enter Yba.func28, Yba.ntmps28
  go_wp2_with fail
  refine (sec_any _ a s _ h0 h1 (by simp) (by simp)).mono ?_
  rintro e w1 ⟨rfl, hw⟩; obtain rfl := hw.symm; clear hw
  go_wp2_with fail
  refine (sec_any _ b s _ g0 g1 (by simp) (by simp)).mono ?_
  rintro e w1 ⟨rfl, hw⟩; obtain rfl := hw.symm; clear hw
  go_wp2_with fail
  refine (nsec_any _ a _ h0 h1 (by simp)).mono ?_
  rintro e w1 ⟨rfl, hw⟩; obtain rfl := hw.symm; clear hw
  go_wp2_with fail
  refine (nsec_any _ b _ g0 g1 (by simp)).mono ?_
  rintro e w1 ⟨rfl, hw⟩; obtain rfl := hw.symm; clear hw
  go_wp2
  go_ret
  exact ⟨rfl, _, _, rfl⟩

theorem before_no (M N a s b t : Int) (w : World) (hM : TM M a s) (hN : TM N b t) (hle : N ≤ M) :
    Calls Yba.prog 28 #[.agg #[.int .u64 a, .int .i64 s, .pointer none], .agg #[.int .u64 b, .int .i64 t, .pointer none]] w fun e w' => e = .returned (.bool false) ∧ ∃ c1 c2, w' = (w.alloc (.cells c1 27)).alloc (.cells c2 27) := by
  obtain ⟨h0, h1, rfl⟩ := hM
  obtain ⟨g0, g1, rfl⟩ := hN
  by_cases h : t < s
  · exact before_sec a s b t w h0 h1 g0 g1 h
  · have : s = t := by omega
    subst this
    exact before_ns a s b w h0 h1 g0 g1 (by omega)

end Go.Proofs.Ybulkcjtk

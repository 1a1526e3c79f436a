/-
  (time.Time).Add, at a time without a monotonic reading.
-/
import Derived.Test.YbulkcjtkAdd
namespace Go.Proofs.Ybulkcjtk
open Go.RowKit

set_option maxHeartbeats 400000 in
theorem add_up (ns sec d D r : Int) (w : World) (h0 : 0 ≤ ns) (h1 : ns < 1000000000) (h2 : -1000000000000000000 ≤ sec) (h3 : sec ≤ 1000000000000000000)
    (rD : d.tdiv 1000000000 = D) (rR : d.tmod 1000000000 = r) (r0 : -1000000000 < r) (r1 : r < 1000000000) (D0 : -9223372037 ≤ D) (D1 : D ≤ 9223372037)
    (c : 1000000000 ≤ ns + r) :
    Calls Yba.prog 7 #[.agg #[.int .u64 ns, .int .i64 sec, .pointer none], .int .i64 d] w fun e w' => e = .returned (.agg #[.int .u64 (ns + r - 1000000000), .int .i64 (sec + (D + 1)), .pointer none]) ∧ ∃ c1 c2, w' = (w.alloc (.cells c1 27)).alloc (.cells c2 27) := by
  have m2 := clear_ns ns h0 h1
  have m4 := or_zero (ns + r - 1000000000) (by omega) (by omega)
  have m3 := top_ns (ns + r - 1000000000) (by omega) (by omega)
  go_enter Yba.func7, Yba.ntmps7
  go_wp2_with fail
  refine (nsec_any _ ns _ h0 h1 ?_).mono ?_
  · simp
  rintro e w1 ⟨rfl, hw⟩
  obtain rfl := hw.symm
  go_wp2_with fail
  refine (addSec_any _ (ns + r - 1000000000) sec (D + 1) _ (by omega) (by omega) h2 h3 (by omega) (by omega) ?_ ?_ ?_).mono ?_
  · simp
  · simp
  · simp
  rintro e w1 ⟨rfl, hw⟩
  obtain rfl := hw.symm
  go_wp2
  exact bodyPost_ret (v := .agg #[.int .u64 (ns + r - 1000000000), .int .i64 (sec + (D + 1)), .pointer none]) (by simp [results, Yba.results7, go_sem]) rfl ⟨rfl, _, _, rfl⟩

set_option maxHeartbeats 400000 in
theorem add_mid (ns sec d D r : Int) (w : World) (h0 : 0 ≤ ns) (h1 : ns < 1000000000) (h2 : -1000000000000000000 ≤ sec) (h3 : sec ≤ 1000000000000000000)
    (rD : d.tdiv 1000000000 = D) (rR : d.tmod 1000000000 = r) (r0 : -1000000000 < r) (r1 : r < 1000000000) (D0 : -9223372037 ≤ D) (D1 : D ≤ 9223372037)
    (c : 0 ≤ ns + r) (c2 : ns + r < 1000000000) :
    Calls Yba.prog 7 #[.agg #[.int .u64 ns, .int .i64 sec, .pointer none], .int .i64 d] w fun e w' => e = .returned (.agg #[.int .u64 (ns + r), .int .i64 (sec + (D)), .pointer none]) ∧ ∃ c1 c2, w' = (w.alloc (.cells c1 27)).alloc (.cells c2 27) := by
  have m2 := clear_ns ns h0 h1
  have m4 := or_zero (ns + r) (by omega) (by omega)
  have m3 := top_ns (ns + r) (by omega) (by omega)
  go_enter Yba.func7, Yba.ntmps7
  go_wp2_with fail
  refine (nsec_any _ ns _ h0 h1 ?_).mono ?_
  · simp
  rintro e w1 ⟨rfl, hw⟩
  obtain rfl := hw.symm
  go_wp2_with fail
  refine (addSec_any _ (ns + r) sec (D) _ (by omega) (by omega) h2 h3 (by omega) (by omega) ?_ ?_ ?_).mono ?_
  · simp
  · simp
  · simp
  rintro e w1 ⟨rfl, hw⟩
  obtain rfl := hw.symm
  go_wp2
  exact bodyPost_ret (v := .agg #[.int .u64 (ns + r), .int .i64 (sec + (D)), .pointer none]) (by simp [results, Yba.results7, go_sem]) rfl ⟨rfl, _, _, rfl⟩

set_option maxHeartbeats 400000 in
theorem add_down (ns sec d D r : Int) (w : World) (h0 : 0 ≤ ns) (h1 : ns < 1000000000) (h2 : -1000000000000000000 ≤ sec) (h3 : sec ≤ 1000000000000000000)
    (rD : d.tdiv 1000000000 = D) (rR : d.tmod 1000000000 = r) (r0 : -1000000000 < r) (r1 : r < 1000000000) (D0 : -9223372037 ≤ D) (D1 : D ≤ 9223372037)
    (c : ns + r < 0) :
    Calls Yba.prog 7 #[.agg #[.int .u64 ns, .int .i64 sec, .pointer none], .int .i64 d] w fun e w' => e = .returned (.agg #[.int .u64 (ns + r + 1000000000), .int .i64 (sec + (D - 1)), .pointer none]) ∧ ∃ c1 c2, w' = (w.alloc (.cells c1 27)).alloc (.cells c2 27) := by
  have m2 := clear_ns ns h0 h1
  have m4 := or_zero (ns + r + 1000000000) (by omega) (by omega)
  have m3 := top_ns (ns + r + 1000000000) (by omega) (by omega)
  go_enter Yba.func7, Yba.ntmps7
  go_wp2_with fail
  refine (nsec_any _ ns _ h0 h1 ?_).mono ?_
  · simp
  rintro e w1 ⟨rfl, hw⟩
  obtain rfl := hw.symm
  go_wp2_with fail
  refine (addSec_any _ (ns + r + 1000000000) sec (D - 1) _ (by omega) (by omega) h2 h3 (by omega) (by omega) ?_ ?_ ?_).mono ?_
  · simp
  · simp
  · simp
  rintro e w1 ⟨rfl, hw⟩
  obtain rfl := hw.symm
  go_wp2
  exact bodyPost_ret (v := .agg #[.int .u64 (ns + r + 1000000000), .int .i64 (sec + (D - 1)), .pointer none]) (by simp [results, Yba.results7, go_sem]) rfl ⟨rfl, _, _, rfl⟩

/-- N nanoseconds since the year 1: sec seconds and ns nanoseconds. -/
def TM (N ns sec : Int) : Prop := 0 ≤ ns ∧ ns < 1000000000 ∧ N = sec * 1000000000 + ns

theorem add_any (N ns sec d : Int) (w : World) (hN : TM N ns sec) (h2 : -1000000000000000000 ≤ sec) (h3 : sec ≤ 1000000000000000000) (d0 : -9223372036854775808 ≤ d) (d1 : d ≤ 9223372036854775807) :
    Calls Yba.prog 7 #[.agg #[.int .u64 ns, .int .i64 sec, .pointer none], .int .i64 d] w fun e w' => ∃ ns' sec', e = .returned (.agg #[.int .u64 ns', .int .i64 sec', .pointer none]) ∧ TM (N + d) ns' sec' ∧ ∃ c1 c2, w' = (w.alloc (.cells c1 27)).alloc (.cells c2 27) := by
  obtain ⟨h0, h1, rfl⟩ := hN
  obtain ⟨D, r, rD, rR, hd, r0, r1, D0, D1⟩ := billion d d0 d1
  by_cases c : 1000000000 ≤ ns + r
  · exact (add_up ns sec d D r w h0 h1 h2 h3 rD rR r0 r1 D0 D1 c).mono fun e w' ⟨a, b⟩ => ⟨_, _, a, ⟨by omega, by omega, by omega⟩, b⟩
  · by_cases c2 : ns + r < 0
    · exact (add_down ns sec d D r w h0 h1 h2 h3 rD rR r0 r1 D0 D1 c2).mono fun e w' ⟨a, b⟩ => ⟨_, _, a, ⟨by omega, by omega, by omega⟩, b⟩
    · exact (add_mid ns sec d D r w h0 h1 h2 h3 rD rR r0 r1 D0 D1 (by omega) (by omega)).mono fun e w' ⟨a, b⟩ => ⟨_, _, a, ⟨by omega, by omega, by omega⟩, b⟩

end Go.Proofs.Ybulkcjtk

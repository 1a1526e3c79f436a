/-
  math/bits.Add64, Sub64 (the model's own entries); Unix, Nanosecond.
-/
import Derived.Test.YbulkcjtkSub2
import Derived.Shelf.Spec.BitsCarry
namespace Go.Proofs.Ybulkcjtk
open Go.RowKit

theorem add64_0 (x y : Int) (hx : 0 ≤ x) (hy : 0 ≤ y) (w : World) : (callFunc 10 #[.int .u64 x, .int .u64 y, .int .u64 0]).run Yba.prog w =
    .ok (.value (.tuple #[.int .u64 ((x + y) % 18446744073709551616), .int .u64 ((x + y) / 18446744073709551616)])) w := by
  rw [run_callFunc_extern Yba.func10 (by kernel_rfl) (by kernel_rfl) (by kernel_rfl) (e := add64Entry) (by kernel_rfl), run_add64 x y 0 hx hy (by decide) (by decide)]
  simp only [Result.andThen, Int.add_zero]

/-- The borrow. -/
def bor (x y : Int) : Int := if x < y then 1 else 0

theorem sub64_0 (x y : Int) (hx : 0 ≤ x) (hy : 0 ≤ y) (hy' : y < 18446744073709551616) (w : World) : (callFunc 22 #[.int .u64 x, .int .u64 y, .int .u64 0]).run Yba.prog w =
    .ok (.value (.tuple #[.int .u64 ((x - y) % 18446744073709551616), .int .u64 (bor x y)])) w := by
  obtain ⟨m, rfl⟩ := Int.eq_ofNat_of_zero_le hx
  obtain ⟨n, rfl⟩ := Int.eq_ofNat_of_zero_le hy
  have hr := run_sub64 (P := Yba.prog) m n 0 (by decide) w
  rw [show ((0 : Nat) : Int) = 0 from rfl] at hr
  rw [run_callFunc_extern Yba.func22 (by kernel_rfl) (by kernel_rfl) (by kernel_rfl) (e := sub64Entry) (by kernel_rfl), hr]
  have e1 : (((m + 18446744073709551616 - n - 0) % 18446744073709551616 : Nat) : Int) = ((m : Int) - n) % 18446744073709551616 := by omega
  have e2 : ((if m < n + 0 then 1 else 0 : Nat) : Int) = bor m n := by unfold bor; split <;> split <;> omega
  rw [e1, e2]
  rfl

set_option maxHeartbeats 400000 in
theorem unixSec_any (b : Nat) (ns sec : Int) (w : World) (h0 : 0 ≤ ns) (h1 : ns < 1000000000) (h2 : -1000000000000000000 ≤ sec) (h3 : sec ≤ 1000000000000000000) (hc : w.cell? ⟨b, 0, none⟩ = some (.int .u64 ns)) (hs : w.cell? ⟨b, 1, none⟩ = some (.int .i64 sec)) :
    Calls Yba.prog 29 #[.pointer (some ⟨b, 0, none⟩)] w fun e w' => e = .returned (.int .i64 (sec + -62135596800)) ∧ w' = w := by
  go_enter Yba.func29, Yba.ntmps29
  go_wp2_with fail
  refine (sec_any b ns sec _ h0 h1 hc hs).mono ?_
  rintro e w1 ⟨rfl, hw⟩; obtain rfl := hw.symm; clear hw
  go_wp2
  go_ret
  exact ⟨rfl, rfl⟩

set_option maxHeartbeats 400000 in
theorem unix_any (ns sec : Int) (w : World) (h0 : 0 ≤ ns) (h1 : ns < 1000000000) (h2 : -1000000000000000000 ≤ sec) (h3 : sec ≤ 1000000000000000000) :
    Calls Yba.prog 19 #[.agg #[.int .u64 ns, .int .i64 sec, .pointer none]] w fun e w' => e = .returned (.int .i64 (sec + -62135596800)) ∧ Below w.heap.size w w' := by
  go_enter Yba.func19, Yba.ntmps19
  go_wp2_with fail
  refine (unixSec_any _ ns sec _ h0 h1 h2 h3 (by simp) (by simp)).mono ?_
  rintro e w1 ⟨rfl, hw⟩; obtain rfl := hw.symm; clear hw
  go_wp2
  go_ret
  exact ⟨rfl, bal (Below.refl _ _) _⟩

set_option maxHeartbeats 400000 in
theorem nano_any (ns sec : Int) (w : World) (h0 : 0 ≤ ns) (h1 : ns < 1000000000) :
    Calls Yba.prog 21 #[.agg #[.int .u64 ns, .int .i64 sec, .pointer none]] w fun e w' => e = .returned (.int .i64 ns) ∧ Below w.heap.size w w' := by
  go_enter Yba.func21, Yba.ntmps21
  go_wp2_with fail
  refine (nsec_any _ ns _ h0 h1 (by simp)).mono ?_
  rintro e w1 ⟨rfl, hw⟩; obtain rfl := hw.symm; clear hw
  go_wp2
  go_ret
  exact ⟨rfl, bal (Below.refl _ _) _⟩

end Go.Proofs.Ybulkcjtk

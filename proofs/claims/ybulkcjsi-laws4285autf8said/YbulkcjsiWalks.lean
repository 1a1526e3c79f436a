import Derived.Test.YbulkcjsiProg
import Derived.Test.YbulkcjsiKeep
namespace Go.Proofs.Ybulkcjsi
open Go.RowKit

theorem Yba.info5 : (Yba.prog.info? 5).map (fun i => (i.zero, i.size, i.bytes)) = some (some (.int .u8 0), 1, 1) := by kernel_rfl

set_option maxHeartbeats 4000000 in
theorem rune_at (k : Int) (hk : k = 0 ∨ k = 1 ∨ k = 2 ∨ k = 3 ∨ k = 4 ∨ k = 5 ∨ k = 6 ∨ k = 7 ∨ k = 8 ∨ k = 9 ∨ k = 10 ∨ k = 11 ∨ k = 12 ∨ k = 13)
    (a1 a2 a3 : Int) (w : World) (h1 : 0 ≤ a1) (h1' : a1 ≤ 255) (h2 : 0 ≤ a2) (h2' : a2 ≤ 255) (h3 : -2147483648 ≤ a3) (h3' : a3 ≤ 2147483647) (hm : a1 % 14 = k) :
    Calls Yba.prog 6 #[.int .u8 a1, .int .u8 a2, .int .i32 a3] w fun e w' => ∃ r o, e = .returned (.int .i32 r) ∧ -2147483648 ≤ r ∧ r ≤ 2147483647 ∧ w' = w.alloc o := by
  rcases hk with rfl | rfl | rfl | rfl | rfl | rfl | rfl | rfl | rfl | rfl | rfl | rfl | rfl | rfl
  all_goals
    go_enter Yba.func6, Yba.ntmps6
    go_wp2
    go_ret
    exact ⟨_, _, rfl, by omega, by omega, rfl⟩

theorem rune_any (a1 a2 a3 : Int) (w : World) (h1 : 0 ≤ a1) (h1' : a1 ≤ 255) (h2 : 0 ≤ a2) (h2' : a2 ≤ 255) (h3 : -2147483648 ≤ a3) (h3' : a3 ≤ 2147483647) :
    Calls Yba.prog 6 #[.int .u8 a1, .int .u8 a2, .int .i32 a3] w fun e w' => ∃ r o, e = .returned (.int .i32 r) ∧ -2147483648 ≤ r ∧ r ≤ 2147483647 ∧ w' = w.alloc o :=
  rune_at (a1 % 14) (by omega) a1 a2 a3 w h1 h1' h2 h2' h3 h3' rfl

end Go.Proofs.Ybulkcjsi

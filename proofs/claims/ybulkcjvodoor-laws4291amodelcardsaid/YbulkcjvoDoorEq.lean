/-
  zzs4291aeq, at two slices that read alike.
-/
import Derived.Test.YbulkcjvoDoorNum
namespace Go.Proofs.YbulkcjvoDoor
open Go.RowKit
set_option linter.unusedVariables false

set_option maxHeartbeats 1000000 in
theorem eq_row (b off b' off' n c c' : Nat) (zs : List Int) (w : World) (hn : n ≤ 65536)
    (c1 : ∀ j, j < n → w.cell? ⟨b, off + j, none⟩ = some (.int .u8 (zs.getD j 0))) (c2 : ∀ j, j < n → w.cell? ⟨b', off' + j, none⟩ = some (.int .u8 (zs.getD j 0))) :
    Calls Ybad.prog 7 #[.slice (some ⟨b, off, none⟩) n c, .slice (some ⟨b', off', none⟩) n c'] w fun e w' => e = .returned (.bool true) ∧ ∃ q, w' = w.drewN q := by
  have C1 : Hid _ := c1
  have C2 : Hid _ := c2
  clear c1 c2
  go_enter Ybad.func7, Ybad.ntmps7
  go_wp2_with fail
  go_loopw [5] (fun i wr => ∃ k q : Nat, k ≤ n ∧ i = .int .i64 k ∧ wr = w.drewN q) (fun i _ => n - (intOf i).toNat)
  case atStart => exact ⟨0, 0, Nat.zero_le _, rfl, rfl⟩
  case round =>
    obtain ⟨k, q, hk, rfl, hwr⟩ := hrel
    have HW : Hid _ := hwr
    clear hwr
    by_cases hlt : k < n
    · have e1 : wr.cell? ⟨b, off + k, none⟩ = some (.int .u8 (zs.getD k 0)) := by rw [HW.out]; exact C1.out k hlt
      have e2 : wr.cell? ⟨b', off' + k, none⟩ = some (.int .u8 (zs.getD k 0)) := by rw [HW.out]; exact C2.out k hlt
      have k1 : (k : Int) < (n : Int) := by omega
      obtain ⟨x, hx⟩ : ∃ x, zs.getD k 0 = x := ⟨_, rfl⟩
      rw [hx] at e1 e2
      clear hx
      go_wp2
      go_quiet (fail)
      go_wp2
      go_roundw
      case rel => exact ⟨k + 1, q + nq, by omega, by go_num, by rw [HW.out, World.drewN_drewN]⟩
      case measure => simp [intOf]; omega
    · obtain rfl : k = n := by omega
      go_wp2
      go_ret
      exact ⟨rfl, q, HW.out⟩

end Go.Proofs.YbulkcjvoDoor

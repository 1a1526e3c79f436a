/-
  isNameStart, isNameChar: what the two answer, at every rune from 256 on, and at the three bytes that appendChar writes.
-/
import Derived.Test.YbulkcjsiProg
import Derived.WalkKit
namespace Go.Proofs.Ybulkcjsi
open Go.RowKit
set_option linter.unusedVariables false

def nameStart (r : Int) : Bool := decide ((97 ≤ r ∧ r ≤ 122) ∨ (65 ≤ r ∧ r ≤ 90) ∨ r = 58 ∨ r = 95 ∨ (192 ≤ r ∧ r ≤ 214) ∨ (216 ≤ r ∧ r ≤ 246) ∨ (248 ≤ r ∧ r ≤ 767) ∨ (880 ≤ r ∧ r ≤ 893) ∨ (895 ≤ r ∧ r ≤ 8191) ∨ (8204 ≤ r ∧ r ≤ 8205) ∨ (8304 ≤ r ∧ r ≤ 8591) ∨ (11264 ≤ r ∧ r ≤ 12271) ∨ (12289 ≤ r ∧ r ≤ 55295) ∨ (63744 ≤ r ∧ r ≤ 64975) ∨ (65008 ≤ r ∧ r ≤ 65533) ∨ (65536 ≤ r ∧ r ≤ 983039))

def nameChar (r : Int) : Bool := decide (nameStart r = true ∨ (48 ≤ r ∧ r ≤ 57) ∨ r = 45 ∨ r = 46 ∨ r = 183 ∨ (768 ≤ r ∧ r ≤ 879) ∨ (8255 ≤ r ∧ r ≤ 8256))

set_option maxHeartbeats 400000 in
set_option maxRecDepth 100000 in
theorem ns0 (r : Int) (w : World) (h1 : 256 ≤ r) (h2 : r ≤ 767) :
    Calls Yba.prog 9 #[.int .i32 r] w fun e w' => e = .returned (.bool true) ∧ w' = w := by
  have a0 : decide (97 ≤ r) = true := by simp; omega
  have a1 : decide (r ≤ 122) = false := by simp; omega
  have a2 : decide (65 ≤ r) = true := by simp; omega
  have a3 : decide (r ≤ 90) = false := by simp; omega
  have a4 : (r == 58) = false := by simp; omega
  have a5 : (r == 95) = false := by simp; omega
  have a6 : decide (192 ≤ r) = true := by simp; omega
  have a7 : decide (r ≤ 214) = false := by simp; omega
  have a8 : decide (216 ≤ r) = true := by simp; omega
  have a9 : decide (r ≤ 246) = false := by simp; omega
  have a10 : decide (248 ≤ r) = true := by simp; omega
  have a11 : decide (r ≤ 767) = true := by simp; omega
  have a12 : decide (880 ≤ r) = false := by simp; omega
  have a13 : decide (895 ≤ r) = false := by simp; omega
  have a14 : decide (8204 ≤ r) = false := by simp; omega
  have a15 : decide (8304 ≤ r) = false := by simp; omega
  have a16 : decide (11264 ≤ r) = false := by simp; omega
  have a17 : decide (12289 ≤ r) = false := by simp; omega
  have a18 : decide (63744 ≤ r) = false := by simp; omega
  have a19 : decide (65008 ≤ r) = false := by simp; omega
  have a20 : decide (65536 ≤ r) = false := by simp; omega
  clear h1 h2
  go_enter Yba.func9, Yba.ntmps9
  simp only [List.append_eq, List.cons_append, List.nil_append]
  go_wp2
  go_ret
  exact ⟨rfl, rfl⟩

set_option maxHeartbeats 400000 in
set_option maxRecDepth 100000 in
theorem ns1 (r : Int) (w : World) (h1 : 768 ≤ r) (h2 : r ≤ 879) :
    Calls Yba.prog 9 #[.int .i32 r] w fun e w' => e = .returned (.bool false) ∧ w' = w := by
  have a0 : decide (97 ≤ r) = true := by simp; omega
  have a1 : decide (r ≤ 122) = false := by simp; omega
  have a2 : decide (65 ≤ r) = true := by simp; omega
  have a3 : decide (r ≤ 90) = false := by simp; omega
  have a4 : (r == 58) = false := by simp; omega
  have a5 : (r == 95) = false := by simp; omega
  have a6 : decide (192 ≤ r) = true := by simp; omega
  have a7 : decide (r ≤ 214) = false := by simp; omega
  have a8 : decide (216 ≤ r) = true := by simp; omega
  have a9 : decide (r ≤ 246) = false := by simp; omega
  have a10 : decide (248 ≤ r) = true := by simp; omega
  have a11 : decide (r ≤ 767) = false := by simp; omega
  have a12 : decide (880 ≤ r) = false := by simp; omega
  have a13 : decide (895 ≤ r) = false := by simp; omega
  have a14 : decide (8204 ≤ r) = false := by simp; omega
  have a15 : decide (8304 ≤ r) = false := by simp; omega
  have a16 : decide (11264 ≤ r) = false := by simp; omega
  have a17 : decide (12289 ≤ r) = false := by simp; omega
  have a18 : decide (63744 ≤ r) = false := by simp; omega
  have a19 : decide (65008 ≤ r) = false := by simp; omega
  have a20 : decide (65536 ≤ r) = false := by simp; omega
  clear h1 h2
  go_enter Yba.func9, Yba.ntmps9
  simp only [List.append_eq, List.cons_append, List.nil_append]
  go_wp2
  go_ret
  exact ⟨rfl, rfl⟩

set_option maxHeartbeats 400000 in
set_option maxRecDepth 100000 in
theorem ns2 (r : Int) (w : World) (h1 : 880 ≤ r) (h2 : r ≤ 893) :
    Calls Yba.prog 9 #[.int .i32 r] w fun e w' => e = .returned (.bool true) ∧ w' = w := by
  have a0 : decide (97 ≤ r) = true := by simp; omega
  have a1 : decide (r ≤ 122) = false := by simp; omega
  have a2 : decide (65 ≤ r) = true := by simp; omega
  have a3 : decide (r ≤ 90) = false := by simp; omega
  have a4 : (r == 58) = false := by simp; omega
  have a5 : (r == 95) = false := by simp; omega
  have a6 : decide (192 ≤ r) = true := by simp; omega
  have a7 : decide (r ≤ 214) = false := by simp; omega
  have a8 : decide (216 ≤ r) = true := by simp; omega
  have a9 : decide (r ≤ 246) = false := by simp; omega
  have a10 : decide (248 ≤ r) = true := by simp; omega
  have a11 : decide (r ≤ 767) = false := by simp; omega
  have a12 : decide (880 ≤ r) = true := by simp; omega
  have a13 : decide (r ≤ 893) = true := by simp; omega
  have a14 : decide (895 ≤ r) = false := by simp; omega
  have a15 : decide (8204 ≤ r) = false := by simp; omega
  have a16 : decide (8304 ≤ r) = false := by simp; omega
  have a17 : decide (11264 ≤ r) = false := by simp; omega
  have a18 : decide (12289 ≤ r) = false := by simp; omega
  have a19 : decide (63744 ≤ r) = false := by simp; omega
  have a20 : decide (65008 ≤ r) = false := by simp; omega
  have a21 : decide (65536 ≤ r) = false := by simp; omega
  clear h1 h2
  go_enter Yba.func9, Yba.ntmps9
  simp only [List.append_eq, List.cons_append, List.nil_append]
  go_wp2
  go_ret
  exact ⟨rfl, rfl⟩

set_option maxHeartbeats 400000 in
set_option maxRecDepth 100000 in
theorem ns3 (r : Int) (w : World) (h1 : 894 ≤ r) (h2 : r ≤ 894) :
    Calls Yba.prog 9 #[.int .i32 r] w fun e w' => e = .returned (.bool false) ∧ w' = w := by
  have a0 : decide (97 ≤ r) = true := by simp; omega
  have a1 : decide (r ≤ 122) = false := by simp; omega
  have a2 : decide (65 ≤ r) = true := by simp; omega
  have a3 : decide (r ≤ 90) = false := by simp; omega
  have a4 : (r == 58) = false := by simp; omega
  have a5 : (r == 95) = false := by simp; omega
  have a6 : decide (192 ≤ r) = true := by simp; omega
  have a7 : decide (r ≤ 214) = false := by simp; omega
  have a8 : decide (216 ≤ r) = true := by simp; omega
  have a9 : decide (r ≤ 246) = false := by simp; omega
  have a10 : decide (248 ≤ r) = true := by simp; omega
  have a11 : decide (r ≤ 767) = false := by simp; omega
  have a12 : decide (880 ≤ r) = true := by simp; omega
  have a13 : decide (r ≤ 893) = false := by simp; omega
  have a14 : decide (895 ≤ r) = false := by simp; omega
  have a15 : decide (8204 ≤ r) = false := by simp; omega
  have a16 : decide (8304 ≤ r) = false := by simp; omega
  have a17 : decide (11264 ≤ r) = false := by simp; omega
  have a18 : decide (12289 ≤ r) = false := by simp; omega
  have a19 : decide (63744 ≤ r) = false := by simp; omega
  have a20 : decide (65008 ≤ r) = false := by simp; omega
  have a21 : decide (65536 ≤ r) = false := by simp; omega
  clear h1 h2
  go_enter Yba.func9, Yba.ntmps9
  simp only [List.append_eq, List.cons_append, List.nil_append]
  go_wp2
  go_ret
  exact ⟨rfl, rfl⟩

set_option maxHeartbeats 400000 in
set_option maxRecDepth 100000 in
theorem ns4 (r : Int) (w : World) (h1 : 895 ≤ r) (h2 : r ≤ 8191) :
    Calls Yba.prog 9 #[.int .i32 r] w fun e w' => e = .returned (.bool true) ∧ w' = w := by
  have a0 : decide (97 ≤ r) = true := by simp; omega
  have a1 : decide (r ≤ 122) = false := by simp; omega
  have a2 : decide (65 ≤ r) = true := by simp; omega
  have a3 : decide (r ≤ 90) = false := by simp; omega
  have a4 : (r == 58) = false := by simp; omega
  have a5 : (r == 95) = false := by simp; omega
  have a6 : decide (192 ≤ r) = true := by simp; omega
  have a7 : decide (r ≤ 214) = false := by simp; omega
  have a8 : decide (216 ≤ r) = true := by simp; omega
  have a9 : decide (r ≤ 246) = false := by simp; omega
  have a10 : decide (248 ≤ r) = true := by simp; omega
  have a11 : decide (r ≤ 767) = false := by simp; omega
  have a12 : decide (880 ≤ r) = true := by simp; omega
  have a13 : decide (r ≤ 893) = false := by simp; omega
  have a14 : decide (895 ≤ r) = true := by simp; omega
  have a15 : decide (r ≤ 8191) = true := by simp; omega
  have a16 : decide (8204 ≤ r) = false := by simp; omega
  have a17 : decide (8304 ≤ r) = false := by simp; omega
  have a18 : decide (11264 ≤ r) = false := by simp; omega
  have a19 : decide (12289 ≤ r) = false := by simp; omega
  have a20 : decide (63744 ≤ r) = false := by simp; omega
  have a21 : decide (65008 ≤ r) = false := by simp; omega
  have a22 : decide (65536 ≤ r) = false := by simp; omega
  clear h1 h2
  go_enter Yba.func9, Yba.ntmps9
  simp only [List.append_eq, List.cons_append, List.nil_append]
  go_wp2
  go_ret
  exact ⟨rfl, rfl⟩

set_option maxHeartbeats 400000 in
set_option maxRecDepth 100000 in
theorem ns5 (r : Int) (w : World) (h1 : 8192 ≤ r) (h2 : r ≤ 8203) :
    Calls Yba.prog 9 #[.int .i32 r] w fun e w' => e = .returned (.bool false) ∧ w' = w := by
  have a0 : decide (97 ≤ r) = true := by simp; omega
  have a1 : decide (r ≤ 122) = false := by simp; omega
  have a2 : decide (65 ≤ r) = true := by simp; omega
  have a3 : decide (r ≤ 90) = false := by simp; omega
  have a4 : (r == 58) = false := by simp; omega
  have a5 : (r == 95) = false := by simp; omega
  have a6 : decide (192 ≤ r) = true := by simp; omega
  have a7 : decide (r ≤ 214) = false := by simp; omega
  have a8 : decide (216 ≤ r) = true := by simp; omega
  have a9 : decide (r ≤ 246) = false := by simp; omega
  have a10 : decide (248 ≤ r) = true := by simp; omega
  have a11 : decide (r ≤ 767) = false := by simp; omega
  have a12 : decide (880 ≤ r) = true := by simp; omega
  have a13 : decide (r ≤ 893) = false := by simp; omega
  have a14 : decide (895 ≤ r) = true := by simp; omega
  have a15 : decide (r ≤ 8191) = false := by simp; omega
  have a16 : decide (8204 ≤ r) = false := by simp; omega
  have a17 : decide (8304 ≤ r) = false := by simp; omega
  have a18 : decide (11264 ≤ r) = false := by simp; omega
  have a19 : decide (12289 ≤ r) = false := by simp; omega
  have a20 : decide (63744 ≤ r) = false := by simp; omega
  have a21 : decide (65008 ≤ r) = false := by simp; omega
  have a22 : decide (65536 ≤ r) = false := by simp; omega
  clear h1 h2
  go_enter Yba.func9, Yba.ntmps9
  simp only [List.append_eq, List.cons_append, List.nil_append]
  go_wp2
  go_ret
  exact ⟨rfl, rfl⟩

set_option maxHeartbeats 400000 in
set_option maxRecDepth 100000 in
theorem ns6 (r : Int) (w : World) (h1 : 8204 ≤ r) (h2 : r ≤ 8205) :
    Calls Yba.prog 9 #[.int .i32 r] w fun e w' => e = .returned (.bool true) ∧ w' = w := by
  have a0 : decide (97 ≤ r) = true := by simp; omega
  have a1 : decide (r ≤ 122) = false := by simp; omega
  have a2 : decide (65 ≤ r) = true := by simp; omega
  have a3 : decide (r ≤ 90) = false := by simp; omega
  have a4 : (r == 58) = false := by simp; omega
  have a5 : (r == 95) = false := by simp; omega
  have a6 : decide (192 ≤ r) = true := by simp; omega
  have a7 : decide (r ≤ 214) = false := by simp; omega
  have a8 : decide (216 ≤ r) = true := by simp; omega
  have a9 : decide (r ≤ 246) = false := by simp; omega
  have a10 : decide (248 ≤ r) = true := by simp; omega
  have a11 : decide (r ≤ 767) = false := by simp; omega
  have a12 : decide (880 ≤ r) = true := by simp; omega
  have a13 : decide (r ≤ 893) = false := by simp; omega
  have a14 : decide (895 ≤ r) = true := by simp; omega
  have a15 : decide (r ≤ 8191) = false := by simp; omega
  have a16 : decide (8204 ≤ r) = true := by simp; omega
  have a17 : decide (r ≤ 8205) = true := by simp; omega
  have a18 : decide (8304 ≤ r) = false := by simp; omega
  have a19 : decide (11264 ≤ r) = false := by simp; omega
  have a20 : decide (12289 ≤ r) = false := by simp; omega
  have a21 : decide (63744 ≤ r) = false := by simp; omega
  have a22 : decide (65008 ≤ r) = false := by simp; omega
  have a23 : decide (65536 ≤ r) = false := by simp; omega
  clear h1 h2
  go_enter Yba.func9, Yba.ntmps9
  simp only [List.append_eq, List.cons_append, List.nil_append]
  go_wp2
  go_ret
  exact ⟨rfl, rfl⟩

set_option maxHeartbeats 400000 in
set_option maxRecDepth 100000 in
theorem ns7 (r : Int) (w : World) (h1 : 8206 ≤ r) (h2 : r ≤ 8303) :
    Calls Yba.prog 9 #[.int .i32 r] w fun e w' => e = .returned (.bool false) ∧ w' = w := by
  have a0 : decide (97 ≤ r) = true := by simp; omega
  have a1 : decide (r ≤ 122) = false := by simp; omega
  have a2 : decide (65 ≤ r) = true := by simp; omega
  have a3 : decide (r ≤ 90) = false := by simp; omega
  have a4 : (r == 58) = false := by simp; omega
  have a5 : (r == 95) = false := by simp; omega
  have a6 : decide (192 ≤ r) = true := by simp; omega
  have a7 : decide (r ≤ 214) = false := by simp; omega
  have a8 : decide (216 ≤ r) = true := by simp; omega
  have a9 : decide (r ≤ 246) = false := by simp; omega
  have a10 : decide (248 ≤ r) = true := by simp; omega
  have a11 : decide (r ≤ 767) = false := by simp; omega
  have a12 : decide (880 ≤ r) = true := by simp; omega
  have a13 : decide (r ≤ 893) = false := by simp; omega
  have a14 : decide (895 ≤ r) = true := by simp; omega
  have a15 : decide (r ≤ 8191) = false := by simp; omega
  have a16 : decide (8204 ≤ r) = true := by simp; omega
  have a17 : decide (r ≤ 8205) = false := by simp; omega
  have a18 : decide (8304 ≤ r) = false := by simp; omega
  have a19 : decide (11264 ≤ r) = false := by simp; omega
  have a20 : decide (12289 ≤ r) = false := by simp; omega
  have a21 : decide (63744 ≤ r) = false := by simp; omega
  have a22 : decide (65008 ≤ r) = false := by simp; omega
  have a23 : decide (65536 ≤ r) = false := by simp; omega
  clear h1 h2
  go_enter Yba.func9, Yba.ntmps9
  simp only [List.append_eq, List.cons_append, List.nil_append]
  go_wp2
  go_ret
  exact ⟨rfl, rfl⟩

set_option maxHeartbeats 400000 in
set_option maxRecDepth 100000 in
theorem ns8 (r : Int) (w : World) (h1 : 8304 ≤ r) (h2 : r ≤ 8591) :
    Calls Yba.prog 9 #[.int .i32 r] w fun e w' => e = .returned (.bool true) ∧ w' = w := by
  have a0 : decide (97 ≤ r) = true := by simp; omega
  have a1 : decide (r ≤ 122) = false := by simp; omega
  have a2 : decide (65 ≤ r) = true := by simp; omega
  have a3 : decide (r ≤ 90) = false := by simp; omega
  have a4 : (r == 58) = false := by simp; omega
  have a5 : (r == 95) = false := by simp; omega
  have a6 : decide (192 ≤ r) = true := by simp; omega
  have a7 : decide (r ≤ 214) = false := by simp; omega
  have a8 : decide (216 ≤ r) = true := by simp; omega
  have a9 : decide (r ≤ 246) = false := by simp; omega
  have a10 : decide (248 ≤ r) = true := by simp; omega
  have a11 : decide (r ≤ 767) = false := by simp; omega
  have a12 : decide (880 ≤ r) = true := by simp; omega
  have a13 : decide (r ≤ 893) = false := by simp; omega
  have a14 : decide (895 ≤ r) = true := by simp; omega
  have a15 : decide (r ≤ 8191) = false := by simp; omega
  have a16 : decide (8204 ≤ r) = true := by simp; omega
  have a17 : decide (r ≤ 8205) = false := by simp; omega
  have a18 : decide (8304 ≤ r) = true := by simp; omega
  have a19 : decide (r ≤ 8591) = true := by simp; omega
  have a20 : decide (11264 ≤ r) = false := by simp; omega
  have a21 : decide (12289 ≤ r) = false := by simp; omega
  have a22 : decide (63744 ≤ r) = false := by simp; omega
  have a23 : decide (65008 ≤ r) = false := by simp; omega
  have a24 : decide (65536 ≤ r) = false := by simp; omega
  clear h1 h2
  go_enter Yba.func9, Yba.ntmps9
  simp only [List.append_eq, List.cons_append, List.nil_append]
  go_wp2
  go_ret
  exact ⟨rfl, rfl⟩

set_option maxHeartbeats 400000 in
set_option maxRecDepth 100000 in
theorem ns9 (r : Int) (w : World) (h1 : 8592 ≤ r) (h2 : r ≤ 11263) :
    Calls Yba.prog 9 #[.int .i32 r] w fun e w' => e = .returned (.bool false) ∧ w' = w := by
  have a0 : decide (97 ≤ r) = true := by simp; omega
  have a1 : decide (r ≤ 122) = false := by simp; omega
  have a2 : decide (65 ≤ r) = true := by simp; omega
  have a3 : decide (r ≤ 90) = false := by simp; omega
  have a4 : (r == 58) = false := by simp; omega
  have a5 : (r == 95) = false := by simp; omega
  have a6 : decide (192 ≤ r) = true := by simp; omega
  have a7 : decide (r ≤ 214) = false := by simp; omega
  have a8 : decide (216 ≤ r) = true := by simp; omega
  have a9 : decide (r ≤ 246) = false := by simp; omega
  have a10 : decide (248 ≤ r) = true := by simp; omega
  have a11 : decide (r ≤ 767) = false := by simp; omega
  have a12 : decide (880 ≤ r) = true := by simp; omega
  have a13 : decide (r ≤ 893) = false := by simp; omega
  have a14 : decide (895 ≤ r) = true := by simp; omega
  have a15 : decide (r ≤ 8191) = false := by simp; omega
  have a16 : decide (8204 ≤ r) = true := by simp; omega
  have a17 : decide (r ≤ 8205) = false := by simp; omega
  have a18 : decide (8304 ≤ r) = true := by simp; omega
  have a19 : decide (r ≤ 8591) = false := by simp; omega
  have a20 : decide (11264 ≤ r) = false := by simp; omega
  have a21 : decide (12289 ≤ r) = false := by simp; omega
  have a22 : decide (63744 ≤ r) = false := by simp; omega
  have a23 : decide (65008 ≤ r) = false := by simp; omega
  have a24 : decide (65536 ≤ r) = false := by simp; omega
  clear h1 h2
  go_enter Yba.func9, Yba.ntmps9
  simp only [List.append_eq, List.cons_append, List.nil_append]
  go_wp2
  go_ret
  exact ⟨rfl, rfl⟩

set_option maxHeartbeats 400000 in
set_option maxRecDepth 100000 in
theorem ns10 (r : Int) (w : World) (h1 : 11264 ≤ r) (h2 : r ≤ 12271) :
    Calls Yba.prog 9 #[.int .i32 r] w fun e w' => e = .returned (.bool true) ∧ w' = w := by
  have a0 : decide (97 ≤ r) = true := by simp; omega
  have a1 : decide (r ≤ 122) = false := by simp; omega
  have a2 : decide (65 ≤ r) = true := by simp; omega
  have a3 : decide (r ≤ 90) = false := by simp; omega
  have a4 : (r == 58) = false := by simp; omega
  have a5 : (r == 95) = false := by simp; omega
  have a6 : decide (192 ≤ r) = true := by simp; omega
  have a7 : decide (r ≤ 214) = false := by simp; omega
  have a8 : decide (216 ≤ r) = true := by simp; omega
  have a9 : decide (r ≤ 246) = false := by simp; omega
  have a10 : decide (248 ≤ r) = true := by simp; omega
  have a11 : decide (r ≤ 767) = false := by simp; omega
  have a12 : decide (880 ≤ r) = true := by simp; omega
  have a13 : decide (r ≤ 893) = false := by simp; omega
  have a14 : decide (895 ≤ r) = true := by simp; omega
  have a15 : decide (r ≤ 8191) = false := by simp; omega
  have a16 : decide (8204 ≤ r) = true := by simp; omega
  have a17 : decide (r ≤ 8205) = false := by simp; omega
  have a18 : decide (8304 ≤ r) = true := by simp; omega
  have a19 : decide (r ≤ 8591) = false := by simp; omega
  have a20 : decide (11264 ≤ r) = true := by simp; omega
  have a21 : decide (r ≤ 12271) = true := by simp; omega
  have a22 : decide (12289 ≤ r) = false := by simp; omega
  have a23 : decide (63744 ≤ r) = false := by simp; omega
  have a24 : decide (65008 ≤ r) = false := by simp; omega
  have a25 : decide (65536 ≤ r) = false := by simp; omega
  clear h1 h2
  go_enter Yba.func9, Yba.ntmps9
  simp only [List.append_eq, List.cons_append, List.nil_append]
  go_wp2
  go_ret
  exact ⟨rfl, rfl⟩

set_option maxHeartbeats 400000 in
set_option maxRecDepth 100000 in
theorem ns11 (r : Int) (w : World) (h1 : 12272 ≤ r) (h2 : r ≤ 12288) :
    Calls Yba.prog 9 #[.int .i32 r] w fun e w' => e = .returned (.bool false) ∧ w' = w := by
  have a0 : decide (97 ≤ r) = true := by simp; omega
  have a1 : decide (r ≤ 122) = false := by simp; omega
  have a2 : decide (65 ≤ r) = true := by simp; omega
  have a3 : decide (r ≤ 90) = false := by simp; omega
  have a4 : (r == 58) = false := by simp; omega
  have a5 : (r == 95) = false := by simp; omega
  have a6 : decide (192 ≤ r) = true := by simp; omega
  have a7 : decide (r ≤ 214) = false := by simp; omega
  have a8 : decide (216 ≤ r) = true := by simp; omega
  have a9 : decide (r ≤ 246) = false := by simp; omega
  have a10 : decide (248 ≤ r) = true := by simp; omega
  have a11 : decide (r ≤ 767) = false := by simp; omega
  have a12 : decide (880 ≤ r) = true := by simp; omega
  have a13 : decide (r ≤ 893) = false := by simp; omega
  have a14 : decide (895 ≤ r) = true := by simp; omega
  have a15 : decide (r ≤ 8191) = false := by simp; omega
  have a16 : decide (8204 ≤ r) = true := by simp; omega
  have a17 : decide (r ≤ 8205) = false := by simp; omega
  have a18 : decide (8304 ≤ r) = true := by simp; omega
  have a19 : decide (r ≤ 8591) = false := by simp; omega
  have a20 : decide (11264 ≤ r) = true := by simp; omega
  have a21 : decide (r ≤ 12271) = false := by simp; omega
  have a22 : decide (12289 ≤ r) = false := by simp; omega
  have a23 : decide (63744 ≤ r) = false := by simp; omega
  have a24 : decide (65008 ≤ r) = false := by simp; omega
  have a25 : decide (65536 ≤ r) = false := by simp; omega
  clear h1 h2
  go_enter Yba.func9, Yba.ntmps9
  simp only [List.append_eq, List.cons_append, List.nil_append]
  go_wp2
  go_ret
  exact ⟨rfl, rfl⟩

set_option maxHeartbeats 400000 in
set_option maxRecDepth 100000 in
theorem ns12 (r : Int) (w : World) (h1 : 12289 ≤ r) (h2 : r ≤ 55295) :
    Calls Yba.prog 9 #[.int .i32 r] w fun e w' => e = .returned (.bool true) ∧ w' = w := by
  have a0 : decide (97 ≤ r) = true := by simp; omega
  have a1 : decide (r ≤ 122) = false := by simp; omega
  have a2 : decide (65 ≤ r) = true := by simp; omega
  have a3 : decide (r ≤ 90) = false := by simp; omega
  have a4 : (r == 58) = false := by simp; omega
  have a5 : (r == 95) = false := by simp; omega
  have a6 : decide (192 ≤ r) = true := by simp; omega
  have a7 : decide (r ≤ 214) = false := by simp; omega
  have a8 : decide (216 ≤ r) = true := by simp; omega
  have a9 : decide (r ≤ 246) = false := by simp; omega
  have a10 : decide (248 ≤ r) = true := by simp; omega
  have a11 : decide (r ≤ 767) = false := by simp; omega
  have a12 : decide (880 ≤ r) = true := by simp; omega
  have a13 : decide (r ≤ 893) = false := by simp; omega
  have a14 : decide (895 ≤ r) = true := by simp; omega
  have a15 : decide (r ≤ 8191) = false := by simp; omega
  have a16 : decide (8204 ≤ r) = true := by simp; omega
  have a17 : decide (r ≤ 8205) = false := by simp; omega
  have a18 : decide (8304 ≤ r) = true := by simp; omega
  have a19 : decide (r ≤ 8591) = false := by simp; omega
  have a20 : decide (11264 ≤ r) = true := by simp; omega
  have a21 : decide (r ≤ 12271) = false := by simp; omega
  have a22 : decide (12289 ≤ r) = true := by simp; omega
  have a23 : decide (r ≤ 55295) = true := by simp; omega
  have a24 : decide (63744 ≤ r) = false := by simp; omega
  have a25 : decide (65008 ≤ r) = false := by simp; omega
  have a26 : decide (65536 ≤ r) = false := by simp; omega
  clear h1 h2
  go_enter Yba.func9, Yba.ntmps9
  simp only [List.append_eq, List.cons_append, List.nil_append]
  go_wp2
  go_ret
  exact ⟨rfl, rfl⟩

set_option maxHeartbeats 400000 in
set_option maxRecDepth 100000 in
theorem ns13 (r : Int) (w : World) (h1 : 55296 ≤ r) (h2 : r ≤ 63743) :
    Calls Yba.prog 9 #[.int .i32 r] w fun e w' => e = .returned (.bool false) ∧ w' = w := by
  have a0 : decide (97 ≤ r) = true := by simp; omega
  have a1 : decide (r ≤ 122) = false := by simp; omega
  have a2 : decide (65 ≤ r) = true := by simp; omega
  have a3 : decide (r ≤ 90) = false := by simp; omega
  have a4 : (r == 58) = false := by simp; omega
  have a5 : (r == 95) = false := by simp; omega
  have a6 : decide (192 ≤ r) = true := by simp; omega
  have a7 : decide (r ≤ 214) = false := by simp; omega
  have a8 : decide (216 ≤ r) = true := by simp; omega
  have a9 : decide (r ≤ 246) = false := by simp; omega
  have a10 : decide (248 ≤ r) = true := by simp; omega
  have a11 : decide (r ≤ 767) = false := by simp; omega
  have a12 : decide (880 ≤ r) = true := by simp; omega
  have a13 : decide (r ≤ 893) = false := by simp; omega
  have a14 : decide (895 ≤ r) = true := by simp; omega
  have a15 : decide (r ≤ 8191) = false := by simp; omega
  have a16 : decide (8204 ≤ r) = true := by simp; omega
  have a17 : decide (r ≤ 8205) = false := by simp; omega
  have a18 : decide (8304 ≤ r) = true := by simp; omega
  have a19 : decide (r ≤ 8591) = false := by simp; omega
  have a20 : decide (11264 ≤ r) = true := by simp; omega
  have a21 : decide (r ≤ 12271) = false := by simp; omega
  have a22 : decide (12289 ≤ r) = true := by simp; omega
  have a23 : decide (r ≤ 55295) = false := by simp; omega
  have a24 : decide (63744 ≤ r) = false := by simp; omega
  have a25 : decide (65008 ≤ r) = false := by simp; omega
  have a26 : decide (65536 ≤ r) = false := by simp; omega
  clear h1 h2
  go_enter Yba.func9, Yba.ntmps9
  simp only [List.append_eq, List.cons_append, List.nil_append]
  go_wp2
  go_ret
  exact ⟨rfl, rfl⟩

set_option maxHeartbeats 400000 in
set_option maxRecDepth 100000 in
theorem ns14 (r : Int) (w : World) (h1 : 63744 ≤ r) (h2 : r ≤ 64975) :
    Calls Yba.prog 9 #[.int .i32 r] w fun e w' => e = .returned (.bool true) ∧ w' = w := by
  have a0 : decide (97 ≤ r) = true := by simp; omega
  have a1 : decide (r ≤ 122) = false := by simp; omega
  have a2 : decide (65 ≤ r) = true := by simp; omega
  have a3 : decide (r ≤ 90) = false := by simp; omega
  have a4 : (r == 58) = false := by simp; omega
  have a5 : (r == 95) = false := by simp; omega
  have a6 : decide (192 ≤ r) = true := by simp; omega
  have a7 : decide (r ≤ 214) = false := by simp; omega
  have a8 : decide (216 ≤ r) = true := by simp; omega
  have a9 : decide (r ≤ 246) = false := by simp; omega
  have a10 : decide (248 ≤ r) = true := by simp; omega
  have a11 : decide (r ≤ 767) = false := by simp; omega
  have a12 : decide (880 ≤ r) = true := by simp; omega
  have a13 : decide (r ≤ 893) = false := by simp; omega
  have a14 : decide (895 ≤ r) = true := by simp; omega
  have a15 : decide (r ≤ 8191) = false := by simp; omega
  have a16 : decide (8204 ≤ r) = true := by simp; omega
  have a17 : decide (r ≤ 8205) = false := by simp; omega
  have a18 : decide (8304 ≤ r) = true := by simp; omega
  have a19 : decide (r ≤ 8591) = false := by simp; omega
  have a20 : decide (11264 ≤ r) = true := by simp; omega
  have a21 : decide (r ≤ 12271) = false := by simp; omega
  have a22 : decide (12289 ≤ r) = true := by simp; omega
  have a23 : decide (r ≤ 55295) = false := by simp; omega
  have a24 : decide (63744 ≤ r) = true := by simp; omega
  have a25 : decide (r ≤ 64975) = true := by simp; omega
  have a26 : decide (65008 ≤ r) = false := by simp; omega
  have a27 : decide (65536 ≤ r) = false := by simp; omega
  clear h1 h2
  go_enter Yba.func9, Yba.ntmps9
  simp only [List.append_eq, List.cons_append, List.nil_append]
  go_wp2
  go_ret
  exact ⟨rfl, rfl⟩

set_option maxHeartbeats 400000 in
set_option maxRecDepth 100000 in
theorem ns15 (r : Int) (w : World) (h1 : 64976 ≤ r) (h2 : r ≤ 65007) :
    Calls Yba.prog 9 #[.int .i32 r] w fun e w' => e = .returned (.bool false) ∧ w' = w := by
  have a0 : decide (97 ≤ r) = true := by simp; omega
  have a1 : decide (r ≤ 122) = false := by simp; omega
  have a2 : decide (65 ≤ r) = true := by simp; omega
  have a3 : decide (r ≤ 90) = false := by simp; omega
  have a4 : (r == 58) = false := by simp; omega
  have a5 : (r == 95) = false := by simp; omega
  have a6 : decide (192 ≤ r) = true := by simp; omega
  have a7 : decide (r ≤ 214) = false := by simp; omega
  have a8 : decide (216 ≤ r) = true := by simp; omega
  have a9 : decide (r ≤ 246) = false := by simp; omega
  have a10 : decide (248 ≤ r) = true := by simp; omega
  have a11 : decide (r ≤ 767) = false := by simp; omega
  have a12 : decide (880 ≤ r) = true := by simp; omega
  have a13 : decide (r ≤ 893) = false := by simp; omega
  have a14 : decide (895 ≤ r) = true := by simp; omega
  have a15 : decide (r ≤ 8191) = false := by simp; omega
  have a16 : decide (8204 ≤ r) = true := by simp; omega
  have a17 : decide (r ≤ 8205) = false := by simp; omega
  have a18 : decide (8304 ≤ r) = true := by simp; omega
  have a19 : decide (r ≤ 8591) = false := by simp; omega
  have a20 : decide (11264 ≤ r) = true := by simp; omega
  have a21 : decide (r ≤ 12271) = false := by simp; omega
  have a22 : decide (12289 ≤ r) = true := by simp; omega
  have a23 : decide (r ≤ 55295) = false := by simp; omega
  have a24 : decide (63744 ≤ r) = true := by simp; omega
  have a25 : decide (r ≤ 64975) = false := by simp; omega
  have a26 : decide (65008 ≤ r) = false := by simp; omega
  have a27 : decide (65536 ≤ r) = false := by simp; omega
  clear h1 h2
  go_enter Yba.func9, Yba.ntmps9
  simp only [List.append_eq, List.cons_append, List.nil_append]
  go_wp2
  go_ret
  exact ⟨rfl, rfl⟩

set_option maxHeartbeats 400000 in
set_option maxRecDepth 100000 in
theorem ns16 (r : Int) (w : World) (h1 : 65008 ≤ r) (h2 : r ≤ 65533) :
    Calls Yba.prog 9 #[.int .i32 r] w fun e w' => e = .returned (.bool true) ∧ w' = w := by
  have a0 : decide (97 ≤ r) = true := by simp; omega
  have a1 : decide (r ≤ 122) = false := by simp; omega
  have a2 : decide (65 ≤ r) = true := by simp; omega
  have a3 : decide (r ≤ 90) = false := by simp; omega
  have a4 : (r == 58) = false := by simp; omega
  have a5 : (r == 95) = false := by simp; omega
  have a6 : decide (192 ≤ r) = true := by simp; omega
  have a7 : decide (r ≤ 214) = false := by simp; omega
  have a8 : decide (216 ≤ r) = true := by simp; omega
  have a9 : decide (r ≤ 246) = false := by simp; omega
  have a10 : decide (248 ≤ r) = true := by simp; omega
  have a11 : decide (r ≤ 767) = false := by simp; omega
  have a12 : decide (880 ≤ r) = true := by simp; omega
  have a13 : decide (r ≤ 893) = false := by simp; omega
  have a14 : decide (895 ≤ r) = true := by simp; omega
  have a15 : decide (r ≤ 8191) = false := by simp; omega
  have a16 : decide (8204 ≤ r) = true := by simp; omega
  have a17 : decide (r ≤ 8205) = false := by simp; omega
  have a18 : decide (8304 ≤ r) = true := by simp; omega
  have a19 : decide (r ≤ 8591) = false := by simp; omega
  have a20 : decide (11264 ≤ r) = true := by simp; omega
  have a21 : decide (r ≤ 12271) = false := by simp; omega
  have a22 : decide (12289 ≤ r) = true := by simp; omega
  have a23 : decide (r ≤ 55295) = false := by simp; omega
  have a24 : decide (63744 ≤ r) = true := by simp; omega
  have a25 : decide (r ≤ 64975) = false := by simp; omega
  have a26 : decide (65008 ≤ r) = true := by simp; omega
  have a27 : decide (r ≤ 65533) = true := by simp; omega
  have a28 : decide (65536 ≤ r) = false := by simp; omega
  clear h1 h2
  go_enter Yba.func9, Yba.ntmps9
  simp only [List.append_eq, List.cons_append, List.nil_append]
  go_wp2
  go_ret
  exact ⟨rfl, rfl⟩

set_option maxHeartbeats 400000 in
set_option maxRecDepth 100000 in
theorem ns17 (r : Int) (w : World) (h1 : 65534 ≤ r) (h2 : r ≤ 65535) :
    Calls Yba.prog 9 #[.int .i32 r] w fun e w' => e = .returned (.bool false) ∧ w' = w := by
  have a0 : decide (97 ≤ r) = true := by simp; omega
  have a1 : decide (r ≤ 122) = false := by simp; omega
  have a2 : decide (65 ≤ r) = true := by simp; omega
  have a3 : decide (r ≤ 90) = false := by simp; omega
  have a4 : (r == 58) = false := by simp; omega
  have a5 : (r == 95) = false := by simp; omega
  have a6 : decide (192 ≤ r) = true := by simp; omega
  have a7 : decide (r ≤ 214) = false := by simp; omega
  have a8 : decide (216 ≤ r) = true := by simp; omega
  have a9 : decide (r ≤ 246) = false := by simp; omega
  have a10 : decide (248 ≤ r) = true := by simp; omega
  have a11 : decide (r ≤ 767) = false := by simp; omega
  have a12 : decide (880 ≤ r) = true := by simp; omega
  have a13 : decide (r ≤ 893) = false := by simp; omega
  have a14 : decide (895 ≤ r) = true := by simp; omega
  have a15 : decide (r ≤ 8191) = false := by simp; omega
  have a16 : decide (8204 ≤ r) = true := by simp; omega
  have a17 : decide (r ≤ 8205) = false := by simp; omega
  have a18 : decide (8304 ≤ r) = true := by simp; omega
  have a19 : decide (r ≤ 8591) = false := by simp; omega
  have a20 : decide (11264 ≤ r) = true := by simp; omega
  have a21 : decide (r ≤ 12271) = false := by simp; omega
  have a22 : decide (12289 ≤ r) = true := by simp; omega
  have a23 : decide (r ≤ 55295) = false := by simp; omega
  have a24 : decide (63744 ≤ r) = true := by simp; omega
  have a25 : decide (r ≤ 64975) = false := by simp; omega
  have a26 : decide (65008 ≤ r) = true := by simp; omega
  have a27 : decide (r ≤ 65533) = false := by simp; omega
  have a28 : decide (65536 ≤ r) = false := by simp; omega
  clear h1 h2
  go_enter Yba.func9, Yba.ntmps9
  simp only [List.append_eq, List.cons_append, List.nil_append]
  go_wp2
  go_ret
  exact ⟨rfl, rfl⟩

set_option maxHeartbeats 400000 in
set_option maxRecDepth 100000 in
theorem ns18 (r : Int) (w : World) (h1 : 65536 ≤ r) (h2 : r ≤ 983039) :
    Calls Yba.prog 9 #[.int .i32 r] w fun e w' => e = .returned (.bool true) ∧ w' = w := by
  have a0 : decide (97 ≤ r) = true := by simp; omega
  have a1 : decide (r ≤ 122) = false := by simp; omega
  have a2 : decide (65 ≤ r) = true := by simp; omega
  have a3 : decide (r ≤ 90) = false := by simp; omega
  have a4 : (r == 58) = false := by simp; omega
  have a5 : (r == 95) = false := by simp; omega
  have a6 : decide (192 ≤ r) = true := by simp; omega
  have a7 : decide (r ≤ 214) = false := by simp; omega
  have a8 : decide (216 ≤ r) = true := by simp; omega
  have a9 : decide (r ≤ 246) = false := by simp; omega
  have a10 : decide (248 ≤ r) = true := by simp; omega
  have a11 : decide (r ≤ 767) = false := by simp; omega
  have a12 : decide (880 ≤ r) = true := by simp; omega
  have a13 : decide (r ≤ 893) = false := by simp; omega
  have a14 : decide (895 ≤ r) = true := by simp; omega
  have a15 : decide (r ≤ 8191) = false := by simp; omega
  have a16 : decide (8204 ≤ r) = true := by simp; omega
  have a17 : decide (r ≤ 8205) = false := by simp; omega
  have a18 : decide (8304 ≤ r) = true := by simp; omega
  have a19 : decide (r ≤ 8591) = false := by simp; omega
  have a20 : decide (11264 ≤ r) = true := by simp; omega
  have a21 : decide (r ≤ 12271) = false := by simp; omega
  have a22 : decide (12289 ≤ r) = true := by simp; omega
  have a23 : decide (r ≤ 55295) = false := by simp; omega
  have a24 : decide (63744 ≤ r) = true := by simp; omega
  have a25 : decide (r ≤ 64975) = false := by simp; omega
  have a26 : decide (65008 ≤ r) = true := by simp; omega
  have a27 : decide (r ≤ 65533) = false := by simp; omega
  have a28 : decide (65536 ≤ r) = true := by simp; omega
  have a29 : decide (r ≤ 983039) = true := by simp; omega
  clear h1 h2
  go_enter Yba.func9, Yba.ntmps9
  simp only [List.append_eq, List.cons_append, List.nil_append]
  go_wp2
  go_ret
  exact ⟨rfl, rfl⟩

set_option maxHeartbeats 400000 in
set_option maxRecDepth 100000 in
theorem ns19 (r : Int) (w : World) (h1 : 983040 ≤ r) :
    Calls Yba.prog 9 #[.int .i32 r] w fun e w' => e = .returned (.bool false) ∧ w' = w := by
  have a0 : decide (97 ≤ r) = true := by simp; omega
  have a1 : decide (r ≤ 122) = false := by simp; omega
  have a2 : decide (65 ≤ r) = true := by simp; omega
  have a3 : decide (r ≤ 90) = false := by simp; omega
  have a4 : (r == 58) = false := by simp; omega
  have a5 : (r == 95) = false := by simp; omega
  have a6 : decide (192 ≤ r) = true := by simp; omega
  have a7 : decide (r ≤ 214) = false := by simp; omega
  have a8 : decide (216 ≤ r) = true := by simp; omega
  have a9 : decide (r ≤ 246) = false := by simp; omega
  have a10 : decide (248 ≤ r) = true := by simp; omega
  have a11 : decide (r ≤ 767) = false := by simp; omega
  have a12 : decide (880 ≤ r) = true := by simp; omega
  have a13 : decide (r ≤ 893) = false := by simp; omega
  have a14 : decide (895 ≤ r) = true := by simp; omega
  have a15 : decide (r ≤ 8191) = false := by simp; omega
  have a16 : decide (8204 ≤ r) = true := by simp; omega
  have a17 : decide (r ≤ 8205) = false := by simp; omega
  have a18 : decide (8304 ≤ r) = true := by simp; omega
  have a19 : decide (r ≤ 8591) = false := by simp; omega
  have a20 : decide (11264 ≤ r) = true := by simp; omega
  have a21 : decide (r ≤ 12271) = false := by simp; omega
  have a22 : decide (12289 ≤ r) = true := by simp; omega
  have a23 : decide (r ≤ 55295) = false := by simp; omega
  have a24 : decide (63744 ≤ r) = true := by simp; omega
  have a25 : decide (r ≤ 64975) = false := by simp; omega
  have a26 : decide (65008 ≤ r) = true := by simp; omega
  have a27 : decide (r ≤ 65533) = false := by simp; omega
  have a28 : decide (65536 ≤ r) = true := by simp; omega
  have a29 : decide (r ≤ 983039) = false := by simp; omega
  clear h1
  go_enter Yba.func9, Yba.ntmps9
  simp only [List.append_eq, List.cons_append, List.nil_append]
  go_wp2
  go_ret
  exact ⟨rfl, rfl⟩

theorem nameStart_any (r : Int) (w : World) (h : 256 ≤ r) :
    Calls Yba.prog 9 #[.int .i32 r] w fun e w' => e = .returned (.bool (nameStart r)) ∧ w' = w := by
  rcases (show (256 ≤ r ∧ r ≤ 767) ∨ (768 ≤ r ∧ r ≤ 879) ∨ (880 ≤ r ∧ r ≤ 893) ∨ (894 ≤ r ∧ r ≤ 894) ∨ (895 ≤ r ∧ r ≤ 8191) ∨ (8192 ≤ r ∧ r ≤ 8203) ∨ (8204 ≤ r ∧ r ≤ 8205) ∨ (8206 ≤ r ∧ r ≤ 8303) ∨ (8304 ≤ r ∧ r ≤ 8591) ∨ (8592 ≤ r ∧ r ≤ 11263) ∨ (11264 ≤ r ∧ r ≤ 12271) ∨ (12272 ≤ r ∧ r ≤ 12288) ∨ (12289 ≤ r ∧ r ≤ 55295) ∨ (55296 ≤ r ∧ r ≤ 63743) ∨ (63744 ≤ r ∧ r ≤ 64975) ∨ (64976 ≤ r ∧ r ≤ 65007) ∨ (65008 ≤ r ∧ r ≤ 65533) ∨ (65534 ≤ r ∧ r ≤ 65535) ∨ (65536 ≤ r ∧ r ≤ 983039) ∨ 983040 ≤ r from by omega) with ⟨g1, g2⟩ | ⟨g1, g2⟩ | ⟨g1, g2⟩ | ⟨g1, g2⟩ | ⟨g1, g2⟩ | ⟨g1, g2⟩ | ⟨g1, g2⟩ | ⟨g1, g2⟩ | ⟨g1, g2⟩ | ⟨g1, g2⟩ | ⟨g1, g2⟩ | ⟨g1, g2⟩ | ⟨g1, g2⟩ | ⟨g1, g2⟩ | ⟨g1, g2⟩ | ⟨g1, g2⟩ | ⟨g1, g2⟩ | ⟨g1, g2⟩ | ⟨g1, g2⟩ | g1
  · rw [show nameStart r = true from by simp [nameStart]; omega]; exact ns0 r w g1 g2
  · rw [show nameStart r = false from by simp [nameStart]; omega]; exact ns1 r w g1 g2
  · rw [show nameStart r = true from by simp [nameStart]; omega]; exact ns2 r w g1 g2
  · rw [show nameStart r = false from by simp [nameStart]; omega]; exact ns3 r w g1 g2
  · rw [show nameStart r = true from by simp [nameStart]; omega]; exact ns4 r w g1 g2
  · rw [show nameStart r = false from by simp [nameStart]; omega]; exact ns5 r w g1 g2
  · rw [show nameStart r = true from by simp [nameStart]; omega]; exact ns6 r w g1 g2
  · rw [show nameStart r = false from by simp [nameStart]; omega]; exact ns7 r w g1 g2
  · rw [show nameStart r = true from by simp [nameStart]; omega]; exact ns8 r w g1 g2
  · rw [show nameStart r = false from by simp [nameStart]; omega]; exact ns9 r w g1 g2
  · rw [show nameStart r = true from by simp [nameStart]; omega]; exact ns10 r w g1 g2
  · rw [show nameStart r = false from by simp [nameStart]; omega]; exact ns11 r w g1 g2
  · rw [show nameStart r = true from by simp [nameStart]; omega]; exact ns12 r w g1 g2
  · rw [show nameStart r = false from by simp [nameStart]; omega]; exact ns13 r w g1 g2
  · rw [show nameStart r = true from by simp [nameStart]; omega]; exact ns14 r w g1 g2
  · rw [show nameStart r = false from by simp [nameStart]; omega]; exact ns15 r w g1 g2
  · rw [show nameStart r = true from by simp [nameStart]; omega]; exact ns16 r w g1 g2
  · rw [show nameStart r = false from by simp [nameStart]; omega]; exact ns17 r w g1 g2
  · rw [show nameStart r = true from by simp [nameStart]; omega]; exact ns18 r w g1 g2
  · rw [show nameStart r = false from by simp [nameStart]; omega]; exact ns19 r w g1

set_option maxHeartbeats 400000 in
set_option maxRecDepth 100000 in
theorem ns_at192 (w : World) : Calls Yba.prog 9 #[.int .i32 192] w fun e w' => e = .returned (.bool true) ∧ w' = w := by
  go_enter Yba.func9, Yba.ntmps9
  simp only [List.append_eq, List.cons_append, List.nil_append]
  go_wp2
  go_ret
  exact ⟨rfl, rfl⟩

set_option maxHeartbeats 400000 in
set_option maxRecDepth 100000 in
theorem ns_at183 (w : World) : Calls Yba.prog 9 #[.int .i32 183] w fun e w' => e = .returned (.bool false) ∧ w' = w := by
  go_enter Yba.func9, Yba.ntmps9
  simp only [List.append_eq, List.cons_append, List.nil_append]
  go_wp2
  go_ret
  exact ⟨rfl, rfl⟩

set_option maxHeartbeats 400000 in
set_option maxRecDepth 100000 in
theorem ns_at215 (w : World) : Calls Yba.prog 9 #[.int .i32 215] w fun e w' => e = .returned (.bool false) ∧ w' = w := by
  go_enter Yba.func9, Yba.ntmps9
  simp only [List.append_eq, List.cons_append, List.nil_append]
  go_wp2
  go_ret
  exact ⟨rfl, rfl⟩

theorem ns_true (r : Int) (w : World) (h : 256 ≤ r) (hs : nameStart r = true) : Calls Yba.prog 9 #[.int .i32 r] w fun e w' => e = .returned (.bool true) ∧ w' = w := by
  have H := nameStart_any r w h
  rw [hs] at H
  exact H
theorem ns_false (r : Int) (w : World) (h : 256 ≤ r) (hs : nameStart r = false) : Calls Yba.prog 9 #[.int .i32 r] w fun e w' => e = .returned (.bool false) ∧ w' = w := by
  have H := nameStart_any r w h
  rw [hs] at H
  exact H

set_option maxHeartbeats 400000 in
set_option maxRecDepth 100000 in
theorem nc_yes (r : Int) (w : World) (h : 256 ≤ r) (hs : nameStart r = true) :
    Calls Yba.prog 10 #[.int .i32 r] w fun e w' => e = .returned (.bool true) ∧ w' = w := by
  go_enter Yba.func10, Yba.ntmps10
  go_wp2_with fail
  refine (ns_true r _ h hs).mono ?_
  rintro e w' ⟨rfl, rfl⟩
  go_wp2
  go_ret
  exact ⟨rfl, rfl⟩

set_option maxHeartbeats 400000 in
set_option maxRecDepth 100000 in
theorem nc0 (r : Int) (w : World) (hs : nameStart r = false) (h1 : 256 ≤ r) (h2 : r ≤ 767) :
    Calls Yba.prog 10 #[.int .i32 r] w fun e w' => e = .returned (.bool false) ∧ w' = w := by
  have hr : 256 ≤ r := by omega
  have a0 : decide (48 ≤ r) = true := by simp; omega
  have a1 : decide (r ≤ 57) = false := by simp; omega
  have a2 : (r == 45) = false := by simp; omega
  have a3 : (r == 46) = false := by simp; omega
  have a4 : (r == 183) = false := by simp; omega
  have a5 : decide (768 ≤ r) = false := by simp; omega
  have a6 : decide (8255 ≤ r) = false := by simp; omega
  clear h1 h2
  go_enter Yba.func10, Yba.ntmps10
  go_wp2_with fail
  refine (ns_false r _ hr hs).mono ?_
  rintro e w' ⟨rfl, rfl⟩
  go_wp2
  go_ret
  exact ⟨rfl, rfl⟩

set_option maxHeartbeats 400000 in
set_option maxRecDepth 100000 in
theorem nc1 (r : Int) (w : World) (hs : nameStart r = false) (h1 : 768 ≤ r) (h2 : r ≤ 879) :
    Calls Yba.prog 10 #[.int .i32 r] w fun e w' => e = .returned (.bool true) ∧ w' = w := by
  have hr : 256 ≤ r := by omega
  have a0 : decide (48 ≤ r) = true := by simp; omega
  have a1 : decide (r ≤ 57) = false := by simp; omega
  have a2 : (r == 45) = false := by simp; omega
  have a3 : (r == 46) = false := by simp; omega
  have a4 : (r == 183) = false := by simp; omega
  have a5 : decide (768 ≤ r) = true := by simp; omega
  have a6 : decide (r ≤ 879) = true := by simp; omega
  have a7 : decide (8255 ≤ r) = false := by simp; omega
  clear h1 h2
  go_enter Yba.func10, Yba.ntmps10
  go_wp2_with fail
  refine (ns_false r _ hr hs).mono ?_
  rintro e w' ⟨rfl, rfl⟩
  go_wp2
  go_ret
  exact ⟨rfl, rfl⟩

set_option maxHeartbeats 400000 in
set_option maxRecDepth 100000 in
theorem nc2 (r : Int) (w : World) (hs : nameStart r = false) (h1 : 880 ≤ r) (h2 : r ≤ 8254) :
    Calls Yba.prog 10 #[.int .i32 r] w fun e w' => e = .returned (.bool false) ∧ w' = w := by
  have hr : 256 ≤ r := by omega
  have a0 : decide (48 ≤ r) = true := by simp; omega
  have a1 : decide (r ≤ 57) = false := by simp; omega
  have a2 : (r == 45) = false := by simp; omega
  have a3 : (r == 46) = false := by simp; omega
  have a4 : (r == 183) = false := by simp; omega
  have a5 : decide (768 ≤ r) = true := by simp; omega
  have a6 : decide (r ≤ 879) = false := by simp; omega
  have a7 : decide (8255 ≤ r) = false := by simp; omega
  clear h1 h2
  go_enter Yba.func10, Yba.ntmps10
  go_wp2_with fail
  refine (ns_false r _ hr hs).mono ?_
  rintro e w' ⟨rfl, rfl⟩
  go_wp2
  go_ret
  exact ⟨rfl, rfl⟩

set_option maxHeartbeats 400000 in
set_option maxRecDepth 100000 in
theorem nc3 (r : Int) (w : World) (hs : nameStart r = false) (h1 : 8255 ≤ r) (h2 : r ≤ 8256) :
    Calls Yba.prog 10 #[.int .i32 r] w fun e w' => e = .returned (.bool true) ∧ w' = w := by
  have hr : 256 ≤ r := by omega
  have a0 : decide (48 ≤ r) = true := by simp; omega
  have a1 : decide (r ≤ 57) = false := by simp; omega
  have a2 : (r == 45) = false := by simp; omega
  have a3 : (r == 46) = false := by simp; omega
  have a4 : (r == 183) = false := by simp; omega
  have a5 : decide (768 ≤ r) = true := by simp; omega
  have a6 : decide (r ≤ 879) = false := by simp; omega
  have a7 : decide (8255 ≤ r) = true := by simp; omega
  have a8 : decide (r ≤ 8256) = true := by simp; omega
  clear h1 h2
  go_enter Yba.func10, Yba.ntmps10
  go_wp2_with fail
  refine (ns_false r _ hr hs).mono ?_
  rintro e w' ⟨rfl, rfl⟩
  go_wp2
  go_ret
  exact ⟨rfl, rfl⟩

set_option maxHeartbeats 400000 in
set_option maxRecDepth 100000 in
theorem nc4 (r : Int) (w : World) (hs : nameStart r = false) (h1 : 8257 ≤ r) :
    Calls Yba.prog 10 #[.int .i32 r] w fun e w' => e = .returned (.bool false) ∧ w' = w := by
  have hr : 256 ≤ r := by omega
  have a0 : decide (48 ≤ r) = true := by simp; omega
  have a1 : decide (r ≤ 57) = false := by simp; omega
  have a2 : (r == 45) = false := by simp; omega
  have a3 : (r == 46) = false := by simp; omega
  have a4 : (r == 183) = false := by simp; omega
  have a5 : decide (768 ≤ r) = true := by simp; omega
  have a6 : decide (r ≤ 879) = false := by simp; omega
  have a7 : decide (8255 ≤ r) = true := by simp; omega
  have a8 : decide (r ≤ 8256) = false := by simp; omega
  clear h1
  go_enter Yba.func10, Yba.ntmps10
  go_wp2_with fail
  refine (ns_false r _ hr hs).mono ?_
  rintro e w' ⟨rfl, rfl⟩
  go_wp2
  go_ret
  exact ⟨rfl, rfl⟩

theorem nameChar_any (r : Int) (w : World) (h : 256 ≤ r) :
    Calls Yba.prog 10 #[.int .i32 r] w fun e w' => e = .returned (.bool (nameChar r)) ∧ w' = w := by
  cases hs : nameStart r
  · rcases (show (256 ≤ r ∧ r ≤ 767) ∨ (768 ≤ r ∧ r ≤ 879) ∨ (880 ≤ r ∧ r ≤ 8254) ∨ (8255 ≤ r ∧ r ≤ 8256) ∨ 8257 ≤ r from by omega) with ⟨g1, g2⟩ | ⟨g1, g2⟩ | ⟨g1, g2⟩ | ⟨g1, g2⟩ | g1
    · rw [show nameChar r = false from by simp [nameChar, hs]; omega]; exact nc0 r w hs g1 g2
    · rw [show nameChar r = true from by simp [nameChar, hs]; omega]; exact nc1 r w hs g1 g2
    · rw [show nameChar r = false from by simp [nameChar, hs]; omega]; exact nc2 r w hs g1 g2
    · rw [show nameChar r = true from by simp [nameChar, hs]; omega]; exact nc3 r w hs g1 g2
    · rw [show nameChar r = false from by simp [nameChar, hs]; omega]; exact nc4 r w hs g1
  · rw [show nameChar r = true from by simp [nameChar, hs]]; exact nc_yes r w h hs

set_option maxHeartbeats 400000 in
set_option maxRecDepth 100000 in
theorem nc_at192 (w : World) : Calls Yba.prog 10 #[.int .i32 192] w fun e w' => e = .returned (.bool true) ∧ w' = w := by
  go_enter Yba.func10, Yba.ntmps10
  go_wp2_with fail
  refine (ns_at192 _).mono ?_
  rintro e w' ⟨rfl, rfl⟩
  go_wp2
  go_ret
  exact ⟨rfl, rfl⟩

set_option maxHeartbeats 400000 in
set_option maxRecDepth 100000 in
theorem nc_at183 (w : World) : Calls Yba.prog 10 #[.int .i32 183] w fun e w' => e = .returned (.bool true) ∧ w' = w := by
  go_enter Yba.func10, Yba.ntmps10
  go_wp2_with fail
  refine (ns_at183 _).mono ?_
  rintro e w' ⟨rfl, rfl⟩
  go_wp2
  go_ret
  exact ⟨rfl, rfl⟩

set_option maxHeartbeats 400000 in
set_option maxRecDepth 100000 in
theorem nc_at215 (w : World) : Calls Yba.prog 10 #[.int .i32 215] w fun e w' => e = .returned (.bool false) ∧ w' = w := by
  go_enter Yba.func10, Yba.ntmps10
  go_wp2_with fail
  refine (ns_at215 _).mono ?_
  rintro e w' ⟨rfl, rfl⟩
  go_wp2
  go_ret
  exact ⟨rfl, rfl⟩

theorem nameChar_of_start {r : Int} (h : nameStart r = true) : nameChar r = true := by simp [nameChar, h]

end Go.Proofs.Ybulkcjsi

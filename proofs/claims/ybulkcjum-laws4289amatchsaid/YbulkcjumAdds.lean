/-
  (*parser).addsTo.
-/
import Derived.Test.YbulkcjumStr
namespace Go.Proofs.Ybulkcjum
open Go.RowKit

/-- What addsTo answers at a value that is not nil. -/
def ans (V E : Int) (adds q : Bool) : Bool := decide (V = 7) && decide (E = 6) && adds && q

theorem Rd.drewN {w : World} {ao : Option Addr} {n cap : Nat} {ss : List ByteArray} (h : Rd w ao n cap ss) (q : Nat) : Rd (w.drewN q) ao n cap ss := h

/-- What addsTo reads. -/
structure Lies (bp bv ge bs br k cap : Nat) (V E : Int) (adds : Bool) (ra pa : Option Addr) (n m rc pc : Nat) (tt ss : List ByteArray) (w : World) : Prop where
  kind : w.cell? ⟨bv, 0, none⟩ = some (.int .u8 V)
  elems : w.cell? ⟨bv, 7, none⟩ = some (.slice (some ⟨ge, 0, none⟩) k cap)
  first : w.cell? ⟨ge, 0, none⟩ = some (.pointer (some ⟨bs, 0, none⟩))
  ekind : w.cell? ⟨bs, 0, none⟩ = some (.int .u8 E)
  ref : w.cell? ⟨bs, 8, none⟩ = some (.pointer (some ⟨br, 0, none⟩))
  adds : w.cell? ⟨br, 4, none⟩ = some (.bool adds)
  path : w.cell? ⟨br, 0, none⟩ = some (.slice ra n rc)
  pref : w.cell? ⟨bp, 7, none⟩ = some (.slice pa m pc)
  hk : 0 < k
  rpath : Rd w ra n rc tt
  rpref : Rd w pa m pc ss
  hn : n ≤ 1024
  hm : m ≤ 1024

set_option maxHeartbeats 400000 in
theorem adds_nil (bp : Nat) (w : World) : Calls Yba.prog 5 #[.pointer (some ⟨bp, 0, none⟩), .pointer none] w fun e w' => e = .returned (.bool false) ∧ w' = w := by
  go_enter Yba.func5, Yba.ntmps5
  go_wp2
  go_ret
  exact ⟨rfl, rfl⟩

section
variable (bp bv ge bs br k cap : Nat) (V E : Int) (ra pa : Option Addr) (n m rc pc : Nat) (tt ss : List ByteArray) (w : World)

set_option maxHeartbeats 400000 in
theorem adds_kind (adds : Bool) (h : Lies bp bv ge bs br k cap V E adds ra pa n m rc pc tt ss w) (hV : V ≠ 7) :
    Calls Yba.prog 5 #[.pointer (some ⟨bp, 0, none⟩), .pointer (some ⟨bv, 0, none⟩)] w fun e w' => e = .returned (.bool false) ∧ w' = w := by
  have e1 := h.kind
  have hb : (V != 7) = true := by simp [hV]
  clear h hV
  go_enter Yba.func5, Yba.ntmps5
  go_wp2
  go_ret
  exact ⟨rfl, rfl⟩

set_option maxHeartbeats 400000 in
theorem adds_ekind (adds : Bool) (h : Lies bp bv ge bs br k cap 7 E adds ra pa n m rc pc tt ss w) (hE : E ≠ 6) :
    Calls Yba.prog 5 #[.pointer (some ⟨bp, 0, none⟩), .pointer (some ⟨bv, 0, none⟩)] w fun e w' => e = .returned (.bool false) ∧ ∃ q, w' = w.drewN q := by
  obtain ⟨e1, e2, e3, e4, e5, e6, e7, e8, e9, _, _, _, _⟩ := h
  have hb : (E == 6) = false := by simp [hE]
  have k1 : (0 : Int) < (k : Int) := by omega
  clear hE
  go_enter Yba.func5, Yba.ntmps5
  go_wp2
  go_quiet (fail)
  go_wp2
  go_ret
  exact ⟨rfl, _, rfl⟩

set_option maxHeartbeats 400000 in
theorem adds_flag (h : Lies bp bv ge bs br k cap 7 6 false ra pa n m rc pc tt ss w) :
    Calls Yba.prog 5 #[.pointer (some ⟨bp, 0, none⟩), .pointer (some ⟨bv, 0, none⟩)] w fun e w' => e = .returned (.bool false) ∧ ∃ q, w' = w.drewN q := by
  obtain ⟨e1, e2, e3, e4, e5, e6, e7, e8, e9, _, _, _, _⟩ := h
  have k1 : (0 : Int) < (k : Int) := by omega
  go_enter Yba.func5, Yba.ntmps5
  go_wp2
  go_quiet (fail)
  go_wp2
  go_ret
  exact ⟨rfl, _, rfl⟩

set_option maxHeartbeats 400000 in
theorem adds_equal (h : Lies bp bv ge bs br k cap 7 6 true ra pa n m rc pc tt ss w) :
    Calls Yba.prog 5 #[.pointer (some ⟨bp, 0, none⟩), .pointer (some ⟨bv, 0, none⟩)] w fun e w' => e = .returned (.bool (eqS tt ss)) ∧ ∃ q, w' = w.drewN q := by
  obtain ⟨e1, e2, e3, e4, e5, e6, e7, e8, e9, r1, r2, hn, hm⟩ := h
  have k1 : (0 : Int) < (k : Int) := by omega
  have R1 : Hid _ := r1
  have R2 : Hid _ := r2
  clear r1 r2
  go_enter Yba.func5, Yba.ntmps5
  go_wp2
  go_quiet ((go_at_call 7; exact Calls.quiet_of (equal_any ra pa n m rc pc tt ss _ R1.out R2.out hn hm)))
  go_wp2
  go_ret
  exact ⟨rfl, _, rfl⟩
end

theorem adds_any (bp bv ge bs br k cap : Nat) (V E : Int) (adds : Bool) (ra pa : Option Addr) (n m rc pc : Nat) (tt ss : List ByteArray) (w : World)
    (h : Lies bp bv ge bs br k cap V E adds ra pa n m rc pc tt ss w) :
    Calls Yba.prog 5 #[.pointer (some ⟨bp, 0, none⟩), .pointer (some ⟨bv, 0, none⟩)] w fun e w' => e = .returned (.bool (ans V E adds (eqS tt ss))) ∧ ∃ q, w' = w.drewN q := by
  by_cases hV : V = 7
  · subst hV
    by_cases hE : E = 6
    · subst hE
      cases adds with
      | false =>
        rw [show ans 7 6 false (eqS tt ss) = false from by simp [ans]]
        exact adds_flag bp bv ge bs br k cap ra pa n m rc pc tt ss w h
      | true =>
        rw [show ans 7 6 true (eqS tt ss) = eqS tt ss from by simp [ans]]
        exact adds_equal bp bv ge bs br k cap ra pa n m rc pc tt ss w h
    · rw [show ans 7 E adds (eqS tt ss) = false from by simp [ans, hE]]
      exact adds_ekind bp bv ge bs br k cap E ra pa n m rc pc tt ss w adds h hE
  · rw [show ans V E adds (eqS tt ss) = false from by simp [ans, hV]]
    exact (adds_kind bp bv ge bs br k cap V E ra pa n m rc pc tt ss w adds h hV).mono fun e w' ⟨a, b⟩ => ⟨a, 0, b⟩

end Go.Proofs.Ybulkcjum

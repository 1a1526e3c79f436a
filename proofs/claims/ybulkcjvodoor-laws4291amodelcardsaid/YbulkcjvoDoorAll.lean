import Derived.Test.YbulkcjvoDoorRead
import Derived.Deep.RegionHeld3
namespace Go.Proofs.YbulkcjvoDoor
open Go.RowKit
set_option linter.unusedVariables false

theorem splice_more {α : Type} {L A B : List α} {off k : Nat} (hA : A.length = k) (h : off + k ≤ L.length) : splice (splice L off A) (off + k) B = splice L off (A ++ B) := by
  subst hA
  have h1 : (L.take off).length = off := by simp; omega
  have e1 : (L.take off ++ (A ++ L.drop (off + A.length))).take (off + A.length) = L.take off ++ A := by
    rw [← List.append_assoc]
    exact List.take_left' (by simp; omega)
  have e2 : (L.take off ++ (A ++ L.drop (off + A.length))).drop (off + A.length + B.length) = L.drop (off + (A ++ B).length) := by
    rw [← List.append_assoc, List.drop_append, List.drop_eq_nil_of_le (by simp; omega)]
    simp only [List.nil_append, List.drop_drop, List.length_append]
    congr 1
    simp; omega
  unfold splice
  rw [e1, e2]
  simp [List.append_assoc]

theorem taken_add {zs : List Int} {pos k j : Nat} : taken zs pos k ++ taken zs (pos + k) j = taken zs pos (k + j) := by
  simp only [taken, ← List.map_append]
  congr 1
  rw [List.take_add, List.drop_drop]

theorem taken_zero {zs : List Int} {pos : Nat} : taken zs pos 0 = [] := by simp [taken]
theorem splice_nil {α : Type} {L : List α} {off : Nat} : splice L off [] = L := by simp [splice]

theorem ahead_read (W : World) (a : Addr) : Sem.run Ybad.prog (nilAhead 177 26 (.pointer (some a)) "Read") W = .ok (some false) W := by kernel_rfl

theorem method_read (W : World) (a : Addr) : Sem.run Ybad.prog (method 177 26 (.pointer (some a)) "Read") W = .ok (29, .pointer (some a)) W := by kernel_rfl

theorem len_splice_taken {buf : List Value} {zs : List Int} {po pos k m : Nat} (h : pos + k ≤ zs.length) (h2 : po + m ≤ buf.length) (h3 : k ≤ m) : (splice buf po (taken zs pos k)).length = buf.length :=
  length_splice _ _ _ (by rw [taken_len h]; omega)

set_option maxHeartbeats 1000000 in
theorem atLeast_full (rb pb po m mc db doff len dcap pos : Nat) (step : Int) (et : TypeId) (ex : Value) (buf : List Value) (T : TypeId) (zs : List Int) (w : World)
    (hr : w.heap[rb]? = some (.cells (rdCells (.slice (some ⟨db, doff, none⟩) len dcap) pos step (.iface et ex)) 28 (0, 0))) (hp : w.heap[pb]? = some (.cells buf.toArray T (0, 0)))
    (hd : Data w db doff zs) (hz : zs.length = len) (hlen : len ≤ dcap) (hcap : dcap ≤ maxLen) (hm : m ≤ mc) (hmc : po + mc ≤ buf.length) (hmx : mc ≤ maxLen) (hlt : pos + m ≤ len) (hne : rb ≠ pb) (hn1 : db ≠ rb) (hn2 : db ≠ pb) :
    Calls Ybad.prog 13 #[.iface 26 (.pointer (some ⟨rb, 0, none⟩)), .slice (some ⟨pb, po, none⟩) m mc, .int .i64 m] w fun e w' => e = .returned (.tuple #[.int .i64 (m : Nat), .nilIface]) ∧
      w'.heap[rb]? = some (.cells (rdCells (.slice (some ⟨db, doff, none⟩) len dcap) ((pos + m : Nat) : Int) step (.iface et ex)) 28 (0, 0)) ∧ w'.heap[pb]? = some (.cells (splice buf po (taken zs pos m)).toArray T (0, 0)) ∧ But rb pb w w' := by
  have HR : Hid _ := hr
  have HP : Hid _ := hp
  have HD : Hid _ := hd
  have HM : Hid (mc ≤ maxLen ∧ dcap ≤ maxLen) := ⟨hmx, hcap⟩
  unfold maxLen at hcap hmx
  have hdd := hd
  clear hr hp hd hdd
  go_enter Ybad.func13, Ybad.ntmps13
  go_wp2
  go_loopw [6, 7, 8] (fun n er _ wr => ∃ k : Nat, k ≤ m ∧ n = .int .i64 k ∧ er = .nilIface ∧ Hid (wr.heap[rb]? = some (.cells (rdCells (.slice (some ⟨db, doff, none⟩) len dcap) ((pos + k : Nat) : Int) step (.iface et ex)) 28 (0, 0))) ∧ Hid (wr.heap[pb]? = some (.cells (splice buf po (taken zs pos k)).toArray T (0, 0))) ∧ But rb pb w wr) (fun n _ _ _ => m - (intOf n).toNat)
  case atStart => exact ⟨0, Nat.zero_le _, rfl, rfl, by rw [Nat.add_zero]; exact HR.out, by rw [taken_zero, splice_nil]; exact HP.out, But.refl _ _ _⟩
  case round =>
    obtain ⟨k, hk, rfl, rfl, q1, q2, q3⟩ := hrel
    rcases Nat.lt_or_ge k m with hlk | hge
    · have t1 : decide ((k : Int) < (m : Int)) = true := by simp; omega
      have t2 : ¬ mc = k := by omega
      have t3 : (k : Int) ≤ (m : Int) := by omega
      have t4 : ¬ k = mc := by omega
      have na := fun W => ahead_read W ⟨rb, 0, none⟩
      have nm := fun W => method_read W ⟨rb, 0, none⟩
      have sl : (splice buf po (taken zs pos k)).length = buf.length := len_splice_taken (by omega) (show po + m ≤ buf.length by omega) hk
      have ca := read_some rb pb (po + k) (m - k) (mc - k) db doff len dcap (pos + k) (len - (pos + k)) step et ex (splice buf po (taken zs pos k)) T zs wr.drew q1.out q2.out (q3.data HD.out hn1 hn2) hz hlen HM.out.2 (by omega) (by omega) (by rw [sl]; omega) (by have := HM.out.1; omega) (by omega) (by omega) hne
      have CA : Hid _ := ca
      clear ca
      go_wp2
      go_region_held3 (fun w' => wr.heap.size ≤ w'.heap.size) (first | exact Nat.le_refl _ | exact x3.size)
        (first
          | (go_at_call 29; refine Calls.mono CA.out ?_; rintro e w9 ⟨j, j0, j1, j2, rfl, x1, x2, x3⟩; have X1 : Hid _ := x1; have X2 : Hid _ := x2; clear x1 x2))
      go_wp2
      go_roundw
      case rel =>
        refine ⟨k + j, by omega, by go_num, rfl, ?_, ?_, ?_⟩
        · rw [← Nat.add_assoc]; exact X1.out
        · have := X2.out
          rw [splice_more (taken_len (by omega)) (by omega), taken_add] at this
          exact this
        · exact q3.trans ⟨x3.os, x3.tape, x3.output, x3.size, x3.block⟩
      case measure => simp [intOf]; omega
    · obtain rfl : k = m := by omega
      go_wp2
      go_ret2
      exact ⟨rfl, q1.out, q2.out, q3⟩

end Go.Proofs.YbulkcjvoDoor

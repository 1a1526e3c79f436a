/-
  io.ReadFull and readBody, where enough is left to read.
-/
import Derived.Test.YbulkcjvoDoorAll
import Derived.Deep.OwnRows
namespace Go.Proofs.YbulkcjvoDoor
open Go.RowKit
set_option linter.unusedVariables false

/-- The reader, its data, what is known of them. -/
structure Reader (rb db doff len dcap pos : Nat) (step : Int) (et : TypeId) (ex : Value) (zs : List Int) (w : World) : Prop where
  box : w.heap[rb]? = some (.cells (rdCells (.slice (some ⟨db, doff, none⟩) len dcap) pos step (.iface et ex)) 28 (0, 0))
  data : Data w db doff zs
  lenEq : zs.length = len
  le : len ≤ dcap
  cap : dcap ≤ maxLen
  ne : db ≠ rb

theorem Reader.db_lt {rb db doff len dcap pos : Nat} {step : Int} {et : TypeId} {ex : Value} {zs : List Int} {w : World} (h : Reader rb db doff len dcap pos step et ex zs w) (h0 : 0 < len) : db < w.heap.size := by
  have := h.data 0 (by rw [h.lenEq]; exact h0)
  exact World.block_lt_of_cell? w _ this

/-- A world that has turned in block pb alone, beside the reader. -/
theorem Reader.moved {rb db doff len dcap pos pos' pb : Nat} {step : Int} {et : TypeId} {ex : Value} {zs : List Int} {w w' : World} (h : Reader rb db doff len dcap pos step et ex zs w)
    (hb : w'.heap[rb]? = some (.cells (rdCells (.slice (some ⟨db, doff, none⟩) len dcap) (pos' : Int) step (.iface et ex)) 28 (0, 0))) (hu : But rb pb w w') (hn : db ≠ pb) : Reader rb db doff len dcap pos' step et ex zs w' :=
  ⟨hb, hu.data h.data h.ne hn, h.lenEq, h.le, h.cap, h.ne⟩

theorem Reader.alloc {rb db doff len dcap pos : Nat} {step : Int} {et : TypeId} {ex : Value} {zs : List Int} {w : World} (h : Reader rb db doff len dcap pos step et ex zs w) (o : Obj) : Reader rb db doff len dcap pos step et ex zs (w.alloc o) :=
  ⟨by rw [Below.heap_alloc _ _ _ (lt_of_get h.box)]; exact h.box, fun j hj => by
    have := h.data j hj
    rw [World.cell?_of_block (w := w) (Below.heap_alloc _ _ _ (World.block_lt_of_cell? w _ this))]; exact this, h.lenEq, h.le, h.cap, h.ne⟩

set_option maxHeartbeats 1000000 in
theorem readFull_full (rb pb po m mc db doff len dcap pos : Nat) (step : Int) (et : TypeId) (ex : Value) (buf : List Value) (T : TypeId) (zs : List Int) (w : World)
    (hr : Reader rb db doff len dcap pos step et ex zs w) (hp : w.heap[pb]? = some (.cells buf.toArray T (0, 0)))
    (hm : m ≤ mc) (hmc : po + mc ≤ buf.length) (hmx : mc ≤ maxLen) (hlt : pos + m ≤ len) (hne : rb ≠ pb) (hn2 : db ≠ pb) :
    Calls Ybad.prog 8 #[.iface 26 (.pointer (some ⟨rb, 0, none⟩)), .slice (some ⟨pb, po, none⟩) m mc] w fun e w' => e = .returned (.tuple #[.int .i64 (m : Nat), .nilIface]) ∧
      Reader rb db doff len dcap (pos + m) step et ex zs w' ∧ w'.heap[pb]? = some (.cells (splice buf po (taken zs pos m)).toArray T (0, 0)) ∧ But rb pb w w' := by
  have ca := atLeast_full rb pb po m mc db doff len dcap pos step et ex buf T zs w hr.box hp hr.data hr.lenEq hr.le hr.cap hm hmc hmx hlt hne hr.ne hn2
  have CA : Hid _ := ca
  have HR : Hid _ := hr
  clear ca hp hr
  go_enter Ybad.func8, Ybad.ntmps8
  go_wp2_with fail
  refine Calls.mono CA.out ?_
  rintro e w1 ⟨rfl, x1, x2, x3⟩
  have X1 : Hid _ := x1
  have X2 : Hid _ := x2
  clear x1 x2
  go_wp2
  go_ret2
  exact ⟨rfl, HR.out.moved X1.out x3 hn2, X2.out, x3⟩

theorem make_bytes (k : IntKind) (n : Nat) (h : n ≤ 65535) (W : World) : (Instr.makeSlice 22 (.int k (n : Int)) (.int k (n : Int))).run Ybad.prog W = .ok (.slice (some ⟨W.heap.size, 0, none⟩) n n) (W.alloc (.cells (madeCells #[.int .u8 0] n) 5)) :=
  run_make_row' 22 5 (.int .u8 0) 1 Ybad.underlying22 (by kernel_rfl) rfl k k n (by omega) (by omega) W

theorem readBody_zero (v : Value) (w : World) : Calls Ybad.prog 10 #[v, .int .u16 0] w fun e w' => e = .returned (.tuple #[.slice none 0 0, .nilIface]) ∧ w' = w := by
  go_enter Ybad.func10, Ybad.ntmps10
  go_wp2
  go_ret2
  exact ⟨rfl, rfl⟩

theorem But.of_alloc {rb : Nat} {w w' : World} {o : Obj} (h : But rb w.heap.size (w.alloc o) w') : But rb rb w w' :=
  ⟨h.os, h.tape, h.output, Nat.le_trans (by simp) h.size, fun k hk h1 _ => by rw [h.block k (by simp; omega) h1 (by omega), Below.heap_alloc _ _ _ hk]⟩

set_option maxHeartbeats 1000000 in
theorem readBody_full (rb n db doff len dcap pos : Nat) (step : Int) (et : TypeId) (ex : Value) (zs : List Int) (w : World)
    (hr : Reader rb db doff len dcap pos step et ex zs w) (hn0 : 0 < n) (hn : n ≤ 65535) (hlt : pos + n ≤ len) :
    Calls Ybad.prog 10 #[.iface 26 (.pointer (some ⟨rb, 0, none⟩)), .int .u16 n] w fun e w' => e = .returned (.tuple #[.slice (some ⟨w.heap.size, 0, none⟩) n n, .nilIface]) ∧
      Reader rb db doff len dcap (pos + n) step et ex zs w' ∧ w'.heap[w.heap.size]? = some (.cells (taken zs pos n).toArray 5 (0, 0)) ∧ But rb rb w w' := by
  have hmk := fun W => make_bytes .u16 n hn W
  have h2 : ¬ n = 0 := by omega
  have h3 : ((n : Int) == 0) = false := by simp; omega
  have h4 : ¬ (n : Int) = 0 := by omega
  have HR : Hid _ := hr
  have hne : rb ≠ w.heap.size := Nat.ne_of_lt (lt_of_get hr.box)
  have hn2 : db ≠ w.heap.size := Nat.ne_of_lt (hr.db_lt (by omega))
  clear hr
  go_enter Ybad.func10, Ybad.ntmps10
  go_wp2_with fail
  have ca := readFull_full rb w.heap.size 0 n n db doff len dcap pos step et ex (madeCells #[.int .u8 0] n).toList 5 zs (w.alloc (.cells (madeCells #[.int .u8 0] n) 5)) (HR.out.alloc _) (heap_alloc_new _ _) (Nat.le_refl _) (by simp [size_madeCells]) (by unfold maxLen; omega) hlt hne hn2
  refine Calls.mono ca ?_
  rintro e w1 ⟨rfl, x1, x2, x3⟩
  have X1 : Hid _ := x1
  have X2 : Hid _ := x2
  clear x1 x2 ca
  go_wp2
  go_ret2
  refine ⟨rfl, X1.out, ?_, x3.of_alloc⟩
  rw [X2.out]
  have hl : (taken zs pos n).length = n := taken_len (by rw [HR.out.lenEq]; exact hlt)
  have : (madeCells #[Value.int .u8 0] n).toList.drop (0 + n) = [] := List.drop_eq_nil_of_le (by simp [size_madeCells])
  simp only [splice, hl, this, List.take_zero, List.nil_append, List.append_nil]

end Go.Proofs.YbulkcjvoDoor

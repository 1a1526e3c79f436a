/-
  LawS4291AModel.
-/
import Derived.Test.YbulkcjvoDoorMiss
import Derived.Test.YbulkcjvoDoorFrame
import Derived.Laws.BitsLemmas
namespace Go.Proofs.YbulkcjvoDoor
open Go.RowKit
set_option linter.unusedVariables false

/-- errors.New. -/
theorem new_err (s : ByteArray) (w : World) : Calls Ybad.prog 5 #[.string s] w fun e w' => e = .returned (errV ⟨w.heap.size, 0, none⟩) ∧ w' = w.alloc (.cells #[.string s] 38) := by
  go_enter Ybad.func5, Ybad.ntmps5
  go_wp2
  go_ret
  exact ⟨rfl, rfl⟩

/-- What the law is told of the two errors of io. -/
structure Sent (a0 a1 : Addr) (w : World) : Prop where
  c0 : w.cell? ⟨0, 0, none⟩ = some (errV a0)
  c1 : w.cell? ⟨1, 0, none⟩ = some (errV a1)
  k0 : ∃ c t, w.heap[a0.block]? = some (.cells c t (0, 0))
  k1 : ∃ c t, w.heap[a1.block]? = some (.cells c t (0, 0))
  ne : a0 ≠ a1

theorem Sent.plain {a0 a1 : Addr} {w : World} (h : Sent a0 a1 w) (o : Obj) : Errs a0 a1 a0 a1 w.heap.size (w.alloc o) := by
  obtain ⟨x0, t0, e0⟩ := h.k0
  obtain ⟨x1, t1, e1⟩ := h.k1
  have l0 := lt_of_get e0
  have l1 := lt_of_get e1
  have m1 : 1 < w.heap.size := World.block_lt_of_cell? w ⟨1, 0, none⟩ h.c1
  have m0 : 0 < w.heap.size := World.block_lt_of_cell? w ⟨0, 0, none⟩ h.c0
  refine ⟨?_, ?_, ⟨x0, t0, ?_⟩, ⟨x0, t0, ?_⟩, ⟨x1, t1, ?_⟩, .inl ⟨rfl, rfl⟩, fun e => h.ne e.symm, l0, l0, l1, m1, by simp⟩
  · rw [World.cell?_of_block (w := w) (Below.heap_alloc _ _ _ m0)]; exact h.c0
  · rw [World.cell?_of_block (w := w) (Below.heap_alloc _ _ _ m1)]; exact h.c1
  · rw [Below.heap_alloc _ _ _ l0]; exact e0
  · rw [Below.heap_alloc _ _ _ l0]; exact e0
  · rw [Below.heap_alloc _ _ _ l1]; exact e1

theorem Sent.other {a0 a1 : Addr} {w : World} (h : Sent a0 a1 w) (cs : Array Value) (T : TypeId) (o : Obj) : Errs a0 a1 ⟨w.heap.size, 0, none⟩ ⟨w.heap.size, 0, none⟩ (w.heap.size + 1) ((w.alloc (.cells cs T)).alloc o) := by
  obtain ⟨x0, t0, e0⟩ := h.k0
  have l0 := lt_of_get e0
  have m1 : 1 < w.heap.size := World.block_lt_of_cell? w ⟨1, 0, none⟩ h.c1
  have m0 : 0 < w.heap.size := World.block_lt_of_cell? w ⟨0, 0, none⟩ h.c0
  have hne : (⟨w.heap.size, 0, none⟩ : Addr) ≠ a0 := by
    rintro rfl
    exact absurd l0 (Nat.lt_irrefl _)
  have kk : ((w.alloc (.cells cs T)).alloc o).heap[w.heap.size]? = some (.cells cs T (0, 0)) := by
    rw [Below.heap_alloc _ _ _ (by simp)]; exact heap_alloc_new w _
  refine ⟨?_, ?_, ⟨x0, t0, ?_⟩, ⟨cs, T, kk⟩, ⟨cs, T, kk⟩, .inr ⟨hne, rfl⟩, hne, by omega, by show w.heap.size < _; omega, by show w.heap.size < _; omega, by omega, by simp⟩
  · rw [World.cell?_of_block (w := w.alloc (.cells cs T)) (Below.heap_alloc _ _ _ (by simp <;> omega)), World.cell?_of_block (w := w) (Below.heap_alloc _ _ _ m0)]; exact h.c0
  · rw [World.cell?_of_block (w := w.alloc (.cells cs T)) (Below.heap_alloc _ _ _ (by simp <;> omega)), World.cell?_of_block (w := w) (Below.heap_alloc _ _ _ m1)]; exact h.c1
  · rw [Below.heap_alloc _ _ _ (by simp <;> omega), Below.heap_alloc _ _ _ l0]; exact e0

set_option maxRecDepth 100000 in
set_option maxHeartbeats 400000 in
theorem model_long (d : Option Addr) (dn dc : Nat) (a2 a3 : Value) (w : World) (h : 1048576 < dn) :
    Calls Ybad.prog 3 #[.slice d dn dc, a2, a3] w fun e w' => e = .returned (.bool true) ∧ Below w.heap.size w w' := by
  have t1 : decide ((1048576 : Int) < (dn : Int)) = true := by first | (simp; done) | (simp; omega)
  go_enter Ybad.func3, Ybad.ntmps3
  go_wp2
  go_ret
  exact ⟨rfl, Below.refl _ _⟩

theorem box_two (w : World) (A B : Obj) : ((w.alloc A).alloc B).heap[w.heap.size + 1]? = some B := by
  have := heap_alloc_new (w.alloc A) B
  simpa using this
theorem below_one (w : World) (A : Obj) : Below w.heap.size w (w.alloc A) := (Below.refl _ _).alloc (Nat.le_refl _) _
theorem below_two (w : World) (A B : Obj) : Below w.heap.size w ((w.alloc A).alloc B) := (below_one w A).alloc (by simp) _
theorem num_hdr (rb db doff len dcap : Nat) (step : Int) (a0 a1 ae au : Addr) (zs : List Int) (w : World)
    (hr : Reader rb db doff len dcap 0 step 36 (.pointer (some ae)) zs w) (hE : Errs a0 a1 ae au rb w) (h2 : 0 < len) (h6 : len < 6) :
    Calls Ybad.prog 6 #[.iface 26 (.pointer (some ⟨rb, 0, none⟩))] w fun e w' => e = .returned (.tuple #[.int .u32 0, .slice none 0 0, errV au]) ∧
      Reader rb db doff len dcap len step 36 (.pointer (some ae)) zs w' ∧ But rb rb w w' := by
  rcases Nat.lt_or_ge len 2 with h | h
  · exact num_one rb db doff len dcap step a0 a1 ae au zs w hr hE h2 h
  · exact num_two rb db doff len dcap step a0 a1 ae au zs w hr hE h h6

/-- The data came in below the new blocks. -/
theorem In.data {w W : World} {db doff n c : Nat} {zs : List Int} (h : In w (some ⟨db, doff, none⟩) n c zs) (hb : Below w.heap.size w W) : Data W db doff zs := by
  intro j hj
  have hc := h.cell _ rfl j (by rw [← h.len]; exact hj)
  rw [Addr.add_lit] at hc
  rw [hb.cell (World.block_lt_of_cell? w _ hc)]
  exact hc
theorem In.blk {w : World} {db doff n c : Nat} {zs : List Int} (h : In w (some ⟨db, doff, none⟩) n c zs) (h0 : 0 < n) : db < w.heap.size :=
  World.block_lt_of_cell? w _ (h.cell _ rfl 0 h0)

/-- The first six bytes. -/
structure Six (dz : List Int) (x0 x1 x2 x3 x4 x5 : Int) : Prop where
  e0 : dz.getD 0 0 = x0
  e1 : dz.getD 1 0 = x1
  e2 : dz.getD 2 0 = x2
  e3 : dz.getD 3 0 = x3
  e4 : dz.getD 4 0 = x4
  e5 : dz.getD 5 0 = x5
  b0 : 0 ≤ x0 ∧ x0 < 256
  b1 : 0 ≤ x1 ∧ x1 < 256
  b2 : 0 ≤ x2 ∧ x2 < 256
  b3 : 0 ≤ x3 ∧ x3 < 256
  b4 : 0 ≤ x4 ∧ x4 < 256
  b5 : 0 ≤ x5 ∧ x5 < 256
theorem Six.bytes {dz : List Int} {x0 x1 x2 x3 x4 x5 : Int} (h : Six dz x0 x1 x2 x3 x4 x5) : ∀ i, i < 6 → 0 ≤ dz.getD i 0 ∧ dz.getD i 0 < 256 := by
  intro i hi
  match i, hi with
  | 0, _ => rw [h.e0]; exact h.b0
  | 1, _ => rw [h.e1]; exact h.b1
  | 2, _ => rw [h.e2]; exact h.b2
  | 3, _ => rw [h.e3]; exact h.b3
  | 4, _ => rw [h.e4]; exact h.b4
  | 5, _ => rw [h.e5]; exact h.b5
theorem Six.bn {dz : List Int} {x0 x1 x2 x3 x4 x5 : Int} {n : Nat} (h : Six dz x0 x1 x2 x3 x4 x5) (hb : Lib.beZ [x0, x1] = n) : n ≤ 65535 := by
  have h0 := h.b0
  have h1 := h.b1
  simp only [Lib.beZ, Lib.beFromZ] at hb
  omega
theorem wraps_i64 (n : Int) (h₀ : 0 ≤ n) (h₁ : n < 2 ^ 63) : IntKind.i64.wrap n = n := by rw [IntKind.wrap_i64]; omega
theorem wraps_u32 (n : Int) (h₀ : 0 ≤ n) (h₁ : n < 2 ^ 32) : IntKind.u32.wrap n = n := by rw [IntKind.wrap_u32]; omega
theorem or_two {x0 x1 : Int} {n : Nat} (b0 : 0 ≤ x0 ∧ x0 < 256) (b1 : 0 ≤ x1 ∧ x1 < 256) (h : Lib.beZ [x0, x1] = n) : bits .or .i64 (x0 * 256) x1 = (n : Int) := by
  rw [bits_join .i64 63 (by decide) wraps_i64 8 (x0 * 256) x1 (by omega) (by omega) (by omega) (by omega) (by omega) (by omega)]
  simp only [Lib.beZ, Lib.beFromZ] at h
  omega
theorem or_four {x2 x3 x4 x5 num : Int} (b2 : 0 ≤ x2 ∧ x2 < 256) (b3 : 0 ≤ x3 ∧ x3 < 256) (b4 : 0 ≤ x4 ∧ x4 < 256) (b5 : 0 ≤ x5 ∧ x5 < 256) (h : Lib.beZ [x2, x3, x4, x5] = num) :
    ∃ y1 y2, bits .or .u32 (x2 * 16777216) (x3 * 65536) = y1 ∧ bits .or .u32 y1 (x4 * 256) = y2 ∧ bits .or .u32 y2 x5 = num := by
  refine ⟨x2 * 16777216 + x3 * 65536, x2 * 16777216 + x3 * 65536 + x4 * 256, ?_, ?_, ?_⟩
  · exact bits_join .u32 32 (by decide) wraps_u32 24 _ _ (by omega) (by omega) (by omega) (by omega) (by omega) (by omega)
  · exact bits_join .u32 32 (by decide) wraps_u32 16 _ _ (by omega) (by omega) (by omega) (by omega) (by omega) (by omega)
  · rw [bits_join .u32 32 (by decide) wraps_u32 8 _ _ (by omega) (by omega) (by omega) (by omega) (by omega) (by omega)]
    simp only [Lib.beZ, Lib.beFromZ] at h
    omega
theorem eq_part {W : World} {g n db doff c : Nat} {dz : List Int} {T : TypeId} (hrow : W.heap[g]? = some (.cells (taken dz 6 n).toArray T (0, 0))) (hdat : Data W db doff dz) (h : 6 + n ≤ dz.length) (hn : n ≤ 65536) :
    Calls Ybad.prog 7 #[.slice (some ⟨g, 0, none⟩) n n, .slice (some ⟨db, doff + 6, none⟩) n c] W fun e w' => e = .returned (.bool true) ∧ ∃ q, w' = W.drewN q := by
  refine eq_row g 0 db (doff + 6) n n c (dz.drop 6) W hn (fun j hj => ?_) (fun j hj => ?_)
  · rw [(own_block hrow).1 (0 + j)]
    have := taken_at (zs := dz) (pos := 6) (k := n) (j := j) h hj
    rw [Nat.zero_add, List.getElem?_toArray, this]
    simp [List.getD_eq_getElem?_getD, List.getElem?_drop]
  · have := hdat (6 + j) (by omega)
    rw [Nat.add_assoc, this]
    simp [List.getD_eq_getElem?_getD, List.getElem?_drop]

set_option maxRecDepth 100000 in
set_option maxHeartbeats 2000000 in
theorem model_zero_F (stepb : Int) (d : Option Addr) (dc : Nat) (a0 a1 : Addr) (w : World) (hS : Sent a0 a1 w) (hI : True) (s0 : 0 ≤ stepb) (s1 : stepb ≤ 255) :
    Calls Ybad.prog 3 #[.slice d 0 dc, .int .u8 stepb, .bool false] w fun e w' => e = .returned (.bool true) ∧ Below w.heap.size w w' := by
  have hc0 := hS.c0
  have hc1 := hS.c1
  have t1 : decide ((1048576 : Int) < (0 : Int)) = false := by first | (simp; done) | (simp; omega)
  have HS : Hid _ := hS
  have HI : Hid _ := hI
  clear hS hI
  go_enter Ybad.func3, Ybad.ntmps3
  go_wp2_with fail
  refine Calls.mono (num_zero w.heap.size d dc _ a0 _ (heap_alloc_new w _)) ?_
  rintro e w5 ⟨rfl, r1, r2⟩
  have b5 : Below w.heap.size w w5 := (below_one w _).trans (r2.mono (by simp))
  have c1 : w5.cell? ⟨w.heap.size, 1, none⟩ = some (.int .i64 0) := by rw [(own_block r1).1 1]; rfl
  have q1 := eql_same a0 w5
  have nn := nil_nil
  clear r1 r2
  go_wp2
  go_ret
  exact ⟨rfl, b5⟩

set_option maxRecDepth 100000 in
set_option maxHeartbeats 2000000 in
theorem model_zero_T (stepb : Int) (d : Option Addr) (dc : Nat) (a0 a1 : Addr) (w : World) (hS : Sent a0 a1 w) (hI : True) (s0 : 0 ≤ stepb) (s1 : stepb ≤ 255) :
    Calls Ybad.prog 3 #[.slice d 0 dc, .int .u8 stepb, .bool true] w fun e w' => e = .returned (.bool true) ∧ Below w.heap.size w w' := by
  have hc0 := hS.c0
  have hc1 := hS.c1
  have t1 : decide ((1048576 : Int) < (0 : Int)) = false := by first | (simp; done) | (simp; omega)
  have HS : Hid _ := hS
  have HI : Hid _ := hI
  clear hS hI
  go_enter Ybad.func3, Ybad.ntmps3
  go_wp2_with fail
  refine Calls.mono (new_err _ w) ?_
  rintro e w1 ⟨rfl, hw1⟩
  have d1 : w1.cell? ⟨1, 0, none⟩ = some (errV a1) := by
    rw [hw1, World.cell?_of_block (w := w) (Below.heap_alloc _ _ _ (World.block_lt_of_cell? w ⟨1, 0, none⟩ hc1))]; exact hc1
  subst hw1
  go_wp2_with fail
  refine Calls.mono (num_zero (w.heap.size + 1) d dc _ ⟨w.heap.size, 0, none⟩ _ (box_two w _ _)) ?_
  rintro e w5 ⟨rfl, r1, r2⟩
  have b5 : Below w.heap.size w w5 := (below_two w _ _).trans (r2.mono (by simp; omega))
  have c1 : w5.cell? ⟨(w.heap.size + 1), 1, none⟩ = some (.int .i64 0) := by rw [(own_block r1).1 1]; rfl
  have q1 := eql_same ⟨w.heap.size, 0, none⟩ w5
  have nn := nil_nil
  clear r1 r2
  go_wp2
  go_ret
  exact ⟨rfl, b5⟩

set_option maxRecDepth 100000 in
set_option maxHeartbeats 2000000 in
theorem model_hdr_F (stepb : Int) (db doff dn dc : Nat) (dz : List Int) (a0 a1 : Addr) (w : World) (hS : Sent a0 a1 w) (hI : In w (some ⟨db, doff, none⟩) dn dc dz) (hle : dn ≤ dc) (hcap : dc ≤ maxLen) (s0 : 0 ≤ stepb) (s1 : stepb ≤ 255) (h0 : 0 < dn) (h6 : dn < 6) :
    Calls Ybad.prog 3 #[.slice (some ⟨db, doff, none⟩) dn dc, .int .u8 stepb, .bool false] w fun e w' => e = .returned (.bool true) ∧ Below w.heap.size w w' := by
  have HC : Hid _ := hcap
  unfold maxLen at hcap
  have t2 : ((dn : Int) == 0) = false := by simp; omega
  have t2' : ¬ dn = 0 := by omega
  have t3 : decide ((dn : Int) < 6) = true := by simp; omega
  have hc0 := hS.c0
  have hc1 := hS.c1
  have t1 : decide ((1048576 : Int) < (dn : Int)) = false := by first | (simp; done) | (simp; omega)
  have HS : Hid _ := hS
  have HI : Hid _ := hI
  clear hS hI
  go_enter Ybad.func3, Ybad.ntmps3
  go_wp2_with fail
  refine Calls.mono (num_hdr w.heap.size db doff dn dc _ a0 a1 a0 a1 dz _ ⟨(heap_alloc_new w _), HI.out.data (below_one w _), HI.out.len, hle, HC.out, by have := HI.out.blk h0; omega⟩ (HS.out.plain _) h0 h6) ?_
  rintro e w5 ⟨rfl, r1, r2⟩
  have b5 : Below w.heap.size w w5 := (below_one w _).trans (r2.below (by omega) (by simp <;> omega))
  have c1 : w5.cell? ⟨w.heap.size, 1, none⟩ = some (.int .i64 dn) := by rw [(own_block r1.box).1 1]; rfl
  have q1 := eql_same a1 w5
  have nn := nil_nil
  clear r1 r2
  go_wp2
  go_ret
  exact ⟨rfl, b5⟩

set_option maxRecDepth 100000 in
set_option maxHeartbeats 2000000 in
theorem model_hdr_T (stepb : Int) (db doff dn dc : Nat) (dz : List Int) (a0 a1 : Addr) (w : World) (hS : Sent a0 a1 w) (hI : In w (some ⟨db, doff, none⟩) dn dc dz) (hle : dn ≤ dc) (hcap : dc ≤ maxLen) (s0 : 0 ≤ stepb) (s1 : stepb ≤ 255) (h0 : 0 < dn) (h6 : dn < 6) :
    Calls Ybad.prog 3 #[.slice (some ⟨db, doff, none⟩) dn dc, .int .u8 stepb, .bool true] w fun e w' => e = .returned (.bool true) ∧ Below w.heap.size w w' := by
  have HC : Hid _ := hcap
  unfold maxLen at hcap
  have t2 : ((dn : Int) == 0) = false := by simp; omega
  have t2' : ¬ dn = 0 := by omega
  have t3 : decide ((dn : Int) < 6) = true := by simp; omega
  have hc0 := hS.c0
  have hc1 := hS.c1
  have t1 : decide ((1048576 : Int) < (dn : Int)) = false := by first | (simp; done) | (simp; omega)
  have HS : Hid _ := hS
  have HI : Hid _ := hI
  clear hS hI
  go_enter Ybad.func3, Ybad.ntmps3
  go_wp2_with fail
  refine Calls.mono (new_err _ w) ?_
  rintro e w1 ⟨rfl, hw1⟩
  have d1 : w1.cell? ⟨1, 0, none⟩ = some (errV a1) := by
    rw [hw1, World.cell?_of_block (w := w) (Below.heap_alloc _ _ _ (World.block_lt_of_cell? w ⟨1, 0, none⟩ hc1))]; exact hc1
  subst hw1
  go_wp2_with fail
  refine Calls.mono (num_hdr (w.heap.size + 1) db doff dn dc _ a0 a1 ⟨w.heap.size, 0, none⟩ ⟨w.heap.size, 0, none⟩ dz _ ⟨(box_two w _ _), HI.out.data (below_two w _ _), HI.out.len, hle, HC.out, by have := HI.out.blk h0; omega⟩ (HS.out.other _ _ _) h0 h6) ?_
  rintro e w5 ⟨rfl, r1, r2⟩
  have b5 : Below w.heap.size w w5 := (below_two w _ _).trans (r2.below (by omega) (by simp <;> omega))
  have c1 : w5.cell? ⟨(w.heap.size + 1), 1, none⟩ = some (.int .i64 dn) := by rw [(own_block r1.box).1 1]; rfl
  have q1 := eql_same ⟨w.heap.size, 0, none⟩ w5
  have nn := nil_nil
  clear r1 r2
  go_wp2
  go_ret
  exact ⟨rfl, b5⟩

set_option maxRecDepth 100000 in
set_option maxHeartbeats 2000000 in
theorem model_short_F (stepb : Int) (db doff dn dc n : Nat) (dz : List Int) (x0 x1 x2 x3 x4 x5 num : Int) (a0 a1 : Addr) (w : World) (hS : Sent a0 a1 w) (hI : In w (some ⟨db, doff, none⟩) dn dc dz) (hle : dn ≤ dc) (hcap : dc ≤ maxLen) (hd : dn ≤ 1048576) (s0 : 0 ≤ stepb) (s1 : stepb ≤ 255) (h6 : 6 ≤ dn)
    (hx : Six dz x0 x1 x2 x3 x4 x5) (hbn : Lib.beZ [x0, x1] = n) (hnum : Lib.beZ [x2, x3, x4, x5] = num) (hlt : dn < 6 + n) :
    Calls Ybad.prog 3 #[.slice (some ⟨db, doff, none⟩) dn dc, .int .u8 stepb, .bool false] w fun e w' => e = .returned (.bool true) ∧ Below w.heap.size w w' := by
  have HC : Hid _ := hcap
  unfold maxLen at hcap
  have t2 : ((dn : Int) == 0) = false := by simp; omega
  have t2' : ¬ dn = 0 := by omega
  have t3 : decide ((dn : Int) < 6) = false := by simp; omega
  have HX : Hid _ := hx
  have HBN : Hid _ := hbn
  have HNU : Hid _ := hnum
  have hn65 : n ≤ 65535 := hx.bn hbn
  have p0 := hx.b0; have p1 := hx.b1; have p2 := hx.b2; have p3 := hx.b3; have p4 := hx.b4; have p5 := hx.b5
  clear hx hbn hnum
  have hc0 := hS.c0
  have hc1 := hS.c1
  have t1 : decide ((1048576 : Int) < (dn : Int)) = false := by first | (simp; done) | (simp; omega)
  have HS : Hid _ := hS
  have HI : Hid _ := hI
  clear hS hI
  go_enter Ybad.func3, Ybad.ntmps3
  go_wp2_with fail
  refine Calls.mono (num_body w.heap.size n db doff dn dc _ a0 a1 a0 a1 dz _ ⟨(heap_alloc_new w _), HI.out.data (below_one w _), HI.out.len, hle, HC.out, by have := HI.out.blk (by omega); omega⟩ (HS.out.plain _) hn65 h6 hlt HX.out.bytes (by rw [HX.out.e0, HX.out.e1]; exact HBN.out) num (by rw [HX.out.e2, HX.out.e3, HX.out.e4, HX.out.e5]; exact HNU.out)) ?_
  rintro e w5 ⟨rfl, r1, r2⟩
  have b5 : Below w.heap.size w w5 := (below_one w _).trans (r2.below (by omega) (by simp <;> omega))
  have c1 : w5.cell? ⟨w.heap.size, 1, none⟩ = some (.int .i64 dn) := by rw [(own_block r1.box).1 1]; rfl
  have q1 := fun q => eql_same a1 (w5.drewN q)
  clear r1 r2
  have hdat := HI.out.data b5
  have e0 : w5.cell? ⟨db, doff, none⟩ = some (.int .u8 x0) := by have := hdat 0 (by rw [HI.out.len]; omega); rw [HX.out.e0] at this; exact this
  have e1 : w5.cell? ⟨db, doff + 1, none⟩ = some (.int .u8 x1) := by have := hdat 1 (by rw [HI.out.len]; omega); rw [HX.out.e1] at this; exact this
  have e2 : w5.cell? ⟨db, doff + 2, none⟩ = some (.int .u8 x2) := by have := hdat 2 (by rw [HI.out.len]; omega); rw [HX.out.e2] at this; exact this
  have e3 : w5.cell? ⟨db, doff + 3, none⟩ = some (.int .u8 x3) := by have := hdat 3 (by rw [HI.out.len]; omega); rw [HX.out.e3] at this; exact this
  have e4 : w5.cell? ⟨db, doff + 4, none⟩ = some (.int .u8 x4) := by have := hdat 4 (by rw [HI.out.len]; omega); rw [HX.out.e4] at this; exact this
  have e5 : w5.cell? ⟨db, doff + 5, none⟩ = some (.int .u8 x5) := by have := hdat 5 (by rw [HI.out.len]; omega); rw [HX.out.e5] at this; exact this
  clear hdat
  have i0 : 0 < dn := by omega
  have i1 : 1 < dn := by omega
  have i2 : 2 < dn := by omega
  have i3 : 3 < dn := by omega
  have i4 : 4 < dn := by omega
  have i5 : 5 < dn := by omega
  have nn := nil_nil
  have o1 : bits .or .i64 (x0 * 256) x1 = (n : Int) := or_two HX.out.b0 HX.out.b1 HBN.out
  obtain ⟨y1, y2, o2, o3, o4⟩ := or_four HX.out.b2 HX.out.b3 HX.out.b4 HX.out.b5 HNU.out
  have t7 : ((n : Int) == 0) = false := by simp; omega
  have t7' : ¬ n = 0 := by omega
  have t8 : decide ((dn : Int) - 6 < (n : Int)) = true := by simp; omega
  have t8' : (dn : Int) - 6 < (n : Int) := by omega
  go_wp2
  go_quiet (fail)
  go_wp2
  go_quiet (fail)
  go_wp2
  go_ret
  exact ⟨rfl, ⟨b5.os, b5.tape, b5.output, b5.size, b5.block⟩⟩

set_option maxRecDepth 100000 in
set_option maxHeartbeats 2000000 in
theorem model_short_T (stepb : Int) (db doff dn dc n : Nat) (dz : List Int) (x0 x1 x2 x3 x4 x5 num : Int) (a0 a1 : Addr) (w : World) (hS : Sent a0 a1 w) (hI : In w (some ⟨db, doff, none⟩) dn dc dz) (hle : dn ≤ dc) (hcap : dc ≤ maxLen) (hd : dn ≤ 1048576) (s0 : 0 ≤ stepb) (s1 : stepb ≤ 255) (h6 : 6 ≤ dn)
    (hx : Six dz x0 x1 x2 x3 x4 x5) (hbn : Lib.beZ [x0, x1] = n) (hnum : Lib.beZ [x2, x3, x4, x5] = num) (hlt : dn < 6 + n) :
    Calls Ybad.prog 3 #[.slice (some ⟨db, doff, none⟩) dn dc, .int .u8 stepb, .bool true] w fun e w' => e = .returned (.bool true) ∧ Below w.heap.size w w' := by
  have HC : Hid _ := hcap
  unfold maxLen at hcap
  have t2 : ((dn : Int) == 0) = false := by simp; omega
  have t2' : ¬ dn = 0 := by omega
  have t3 : decide ((dn : Int) < 6) = false := by simp; omega
  have HX : Hid _ := hx
  have HBN : Hid _ := hbn
  have HNU : Hid _ := hnum
  have hn65 : n ≤ 65535 := hx.bn hbn
  have p0 := hx.b0; have p1 := hx.b1; have p2 := hx.b2; have p3 := hx.b3; have p4 := hx.b4; have p5 := hx.b5
  clear hx hbn hnum
  have hc0 := hS.c0
  have hc1 := hS.c1
  have t1 : decide ((1048576 : Int) < (dn : Int)) = false := by first | (simp; done) | (simp; omega)
  have HS : Hid _ := hS
  have HI : Hid _ := hI
  clear hS hI
  go_enter Ybad.func3, Ybad.ntmps3
  go_wp2_with fail
  refine Calls.mono (new_err _ w) ?_
  rintro e w1 ⟨rfl, hw1⟩
  have d1 : w1.cell? ⟨1, 0, none⟩ = some (errV a1) := by
    rw [hw1, World.cell?_of_block (w := w) (Below.heap_alloc _ _ _ (World.block_lt_of_cell? w ⟨1, 0, none⟩ hc1))]; exact hc1
  subst hw1
  go_wp2_with fail
  refine Calls.mono (num_body (w.heap.size + 1) n db doff dn dc _ a0 a1 ⟨w.heap.size, 0, none⟩ ⟨w.heap.size, 0, none⟩ dz _ ⟨(box_two w _ _), HI.out.data (below_two w _ _), HI.out.len, hle, HC.out, by have := HI.out.blk (by omega); omega⟩ (HS.out.other _ _ _) hn65 h6 hlt HX.out.bytes (by rw [HX.out.e0, HX.out.e1]; exact HBN.out) num (by rw [HX.out.e2, HX.out.e3, HX.out.e4, HX.out.e5]; exact HNU.out)) ?_
  rintro e w5 ⟨rfl, r1, r2⟩
  have b5 : Below w.heap.size w w5 := (below_two w _ _).trans (r2.below (by omega) (by simp <;> omega))
  have c1 : w5.cell? ⟨(w.heap.size + 1), 1, none⟩ = some (.int .i64 dn) := by rw [(own_block r1.box).1 1]; rfl
  have q1 := fun q => eql_same ⟨w.heap.size, 0, none⟩ (w5.drewN q)
  clear r1 r2
  have hdat := HI.out.data b5
  have e0 : w5.cell? ⟨db, doff, none⟩ = some (.int .u8 x0) := by have := hdat 0 (by rw [HI.out.len]; omega); rw [HX.out.e0] at this; exact this
  have e1 : w5.cell? ⟨db, doff + 1, none⟩ = some (.int .u8 x1) := by have := hdat 1 (by rw [HI.out.len]; omega); rw [HX.out.e1] at this; exact this
  have e2 : w5.cell? ⟨db, doff + 2, none⟩ = some (.int .u8 x2) := by have := hdat 2 (by rw [HI.out.len]; omega); rw [HX.out.e2] at this; exact this
  have e3 : w5.cell? ⟨db, doff + 3, none⟩ = some (.int .u8 x3) := by have := hdat 3 (by rw [HI.out.len]; omega); rw [HX.out.e3] at this; exact this
  have e4 : w5.cell? ⟨db, doff + 4, none⟩ = some (.int .u8 x4) := by have := hdat 4 (by rw [HI.out.len]; omega); rw [HX.out.e4] at this; exact this
  have e5 : w5.cell? ⟨db, doff + 5, none⟩ = some (.int .u8 x5) := by have := hdat 5 (by rw [HI.out.len]; omega); rw [HX.out.e5] at this; exact this
  clear hdat
  have i0 : 0 < dn := by omega
  have i1 : 1 < dn := by omega
  have i2 : 2 < dn := by omega
  have i3 : 3 < dn := by omega
  have i4 : 4 < dn := by omega
  have i5 : 5 < dn := by omega
  have nn := nil_nil
  have o1 : bits .or .i64 (x0 * 256) x1 = (n : Int) := or_two HX.out.b0 HX.out.b1 HBN.out
  obtain ⟨y1, y2, o2, o3, o4⟩ := or_four HX.out.b2 HX.out.b3 HX.out.b4 HX.out.b5 HNU.out
  have t7 : ((n : Int) == 0) = false := by simp; omega
  have t7' : ¬ n = 0 := by omega
  have t8 : decide ((dn : Int) - 6 < (n : Int)) = true := by simp; omega
  have t8' : (dn : Int) - 6 < (n : Int) := by omega
  go_wp2
  go_quiet (fail)
  go_wp2
  go_quiet (fail)
  go_wp2
  go_ret
  exact ⟨rfl, ⟨b5.os, b5.tape, b5.output, b5.size, b5.block⟩⟩

set_option maxRecDepth 100000 in
set_option maxHeartbeats 2000000 in
theorem model_empty_F (stepb : Int) (db doff dn dc n : Nat) (dz : List Int) (x0 x1 x2 x3 x4 x5 num : Int) (a0 a1 : Addr) (w : World) (hS : Sent a0 a1 w) (hI : In w (some ⟨db, doff, none⟩) dn dc dz) (hle : dn ≤ dc) (hcap : dc ≤ maxLen) (hd : dn ≤ 1048576) (s0 : 0 ≤ stepb) (s1 : stepb ≤ 255) (h6 : 6 ≤ dn)
    (hx : Six dz x0 x1 x2 x3 x4 x5) (hbn : Lib.beZ [x0, x1] = n) (hnum : Lib.beZ [x2, x3, x4, x5] = num) (hn0 : n = 0) :
    Calls Ybad.prog 3 #[.slice (some ⟨db, doff, none⟩) dn dc, .int .u8 stepb, .bool false] w fun e w' => e = .returned (.bool true) ∧ Below w.heap.size w w' := by
  have HC : Hid _ := hcap
  unfold maxLen at hcap
  have t2 : ((dn : Int) == 0) = false := by simp; omega
  have t2' : ¬ dn = 0 := by omega
  have t3 : decide ((dn : Int) < 6) = false := by simp; omega
  have HX : Hid _ := hx
  have HBN : Hid _ := hbn
  have HNU : Hid _ := hnum
  have hn65 : n ≤ 65535 := hx.bn hbn
  have p0 := hx.b0; have p1 := hx.b1; have p2 := hx.b2; have p3 := hx.b3; have p4 := hx.b4; have p5 := hx.b5
  clear hx hbn hnum
  have hc0 := hS.c0
  have hc1 := hS.c1
  have t1 : decide ((1048576 : Int) < (dn : Int)) = false := by first | (simp; done) | (simp; omega)
  have HS : Hid _ := hS
  have HI : Hid _ := hI
  clear hS hI
  go_enter Ybad.func3, Ybad.ntmps3
  go_wp2_with fail
  refine Calls.mono (num_full w.heap.size n db doff dn dc _ 36 (.pointer (some a0)) dz _ ⟨(heap_alloc_new w _), HI.out.data (below_one w _), HI.out.len, hle, HC.out, by have := HI.out.blk (by omega); omega⟩ hn65 (by omega) HX.out.bytes (by rw [HX.out.e0, HX.out.e1]; exact HBN.out) num (by rw [HX.out.e2, HX.out.e3, HX.out.e4, HX.out.e5]; exact HNU.out)) ?_
  rintro e w5 ⟨v, rfl, r1, r3, r2⟩
  have b5 : Below w.heap.size w w5 := (below_one w _).trans (r2.below (by omega) (by simp <;> omega))
  have c1 : w5.cell? ⟨w.heap.size, 1, none⟩ = some (.int .i64 6) := by rw [(own_block r1.box).1 1]; subst hn0; rfl
  clear r1 r2
  obtain rfl : v = .slice none 0 0 := by
    rcases r3 with ⟨_, h⟩ | ⟨h, _⟩
    · exact h
    · omega
  clear r3
  have hdat := HI.out.data b5
  have e0 : w5.cell? ⟨db, doff, none⟩ = some (.int .u8 x0) := by have := hdat 0 (by rw [HI.out.len]; omega); rw [HX.out.e0] at this; exact this
  have e1 : w5.cell? ⟨db, doff + 1, none⟩ = some (.int .u8 x1) := by have := hdat 1 (by rw [HI.out.len]; omega); rw [HX.out.e1] at this; exact this
  have e2 : w5.cell? ⟨db, doff + 2, none⟩ = some (.int .u8 x2) := by have := hdat 2 (by rw [HI.out.len]; omega); rw [HX.out.e2] at this; exact this
  have e3 : w5.cell? ⟨db, doff + 3, none⟩ = some (.int .u8 x3) := by have := hdat 3 (by rw [HI.out.len]; omega); rw [HX.out.e3] at this; exact this
  have e4 : w5.cell? ⟨db, doff + 4, none⟩ = some (.int .u8 x4) := by have := hdat 4 (by rw [HI.out.len]; omega); rw [HX.out.e4] at this; exact this
  have e5 : w5.cell? ⟨db, doff + 5, none⟩ = some (.int .u8 x5) := by have := hdat 5 (by rw [HI.out.len]; omega); rw [HX.out.e5] at this; exact this
  clear hdat
  have i0 : 0 < dn := by omega
  have i1 : 1 < dn := by omega
  have i2 : 2 < dn := by omega
  have i3 : 3 < dn := by omega
  have i4 : 4 < dn := by omega
  have i5 : 5 < dn := by omega
  have nn := nil_nil
  have o1 : bits .or .i64 (x0 * 256) x1 = (n : Int) := or_two HX.out.b0 HX.out.b1 HBN.out
  obtain ⟨y1, y2, o2, o3, o4⟩ := or_four HX.out.b2 HX.out.b3 HX.out.b4 HX.out.b5 HNU.out
  have t7 : ((n : Int) == 0) = true := by simp; omega
  subst hn0
  go_wp2
  go_quiet (fail)
  go_wp2
  go_quiet (fail)
  go_wp2
  go_ret
  exact ⟨rfl, ⟨b5.os, b5.tape, b5.output, b5.size, b5.block⟩⟩

set_option maxRecDepth 100000 in
set_option maxHeartbeats 2000000 in
theorem model_empty_T (stepb : Int) (db doff dn dc n : Nat) (dz : List Int) (x0 x1 x2 x3 x4 x5 num : Int) (a0 a1 : Addr) (w : World) (hS : Sent a0 a1 w) (hI : In w (some ⟨db, doff, none⟩) dn dc dz) (hle : dn ≤ dc) (hcap : dc ≤ maxLen) (hd : dn ≤ 1048576) (s0 : 0 ≤ stepb) (s1 : stepb ≤ 255) (h6 : 6 ≤ dn)
    (hx : Six dz x0 x1 x2 x3 x4 x5) (hbn : Lib.beZ [x0, x1] = n) (hnum : Lib.beZ [x2, x3, x4, x5] = num) (hn0 : n = 0) :
    Calls Ybad.prog 3 #[.slice (some ⟨db, doff, none⟩) dn dc, .int .u8 stepb, .bool true] w fun e w' => e = .returned (.bool true) ∧ Below w.heap.size w w' := by
  have HC : Hid _ := hcap
  unfold maxLen at hcap
  have t2 : ((dn : Int) == 0) = false := by simp; omega
  have t2' : ¬ dn = 0 := by omega
  have t3 : decide ((dn : Int) < 6) = false := by simp; omega
  have HX : Hid _ := hx
  have HBN : Hid _ := hbn
  have HNU : Hid _ := hnum
  have hn65 : n ≤ 65535 := hx.bn hbn
  have p0 := hx.b0; have p1 := hx.b1; have p2 := hx.b2; have p3 := hx.b3; have p4 := hx.b4; have p5 := hx.b5
  clear hx hbn hnum
  have hc0 := hS.c0
  have hc1 := hS.c1
  have t1 : decide ((1048576 : Int) < (dn : Int)) = false := by first | (simp; done) | (simp; omega)
  have HS : Hid _ := hS
  have HI : Hid _ := hI
  clear hS hI
  go_enter Ybad.func3, Ybad.ntmps3
  go_wp2_with fail
  refine Calls.mono (new_err _ w) ?_
  rintro e w1 ⟨rfl, hw1⟩
  have d1 : w1.cell? ⟨1, 0, none⟩ = some (errV a1) := by
    rw [hw1, World.cell?_of_block (w := w) (Below.heap_alloc _ _ _ (World.block_lt_of_cell? w ⟨1, 0, none⟩ hc1))]; exact hc1
  subst hw1
  go_wp2_with fail
  refine Calls.mono (num_full (w.heap.size + 1) n db doff dn dc _ 36 (.pointer (some ⟨w.heap.size, 0, none⟩)) dz _ ⟨(box_two w _ _), HI.out.data (below_two w _ _), HI.out.len, hle, HC.out, by have := HI.out.blk (by omega); omega⟩ hn65 (by omega) HX.out.bytes (by rw [HX.out.e0, HX.out.e1]; exact HBN.out) num (by rw [HX.out.e2, HX.out.e3, HX.out.e4, HX.out.e5]; exact HNU.out)) ?_
  rintro e w5 ⟨v, rfl, r1, r3, r2⟩
  have b5 : Below w.heap.size w w5 := (below_two w _ _).trans (r2.below (by omega) (by simp <;> omega))
  have c1 : w5.cell? ⟨(w.heap.size + 1), 1, none⟩ = some (.int .i64 6) := by rw [(own_block r1.box).1 1]; subst hn0; rfl
  clear r1 r2
  obtain rfl : v = .slice none 0 0 := by
    rcases r3 with ⟨_, h⟩ | ⟨h, _⟩
    · exact h
    · omega
  clear r3
  have hdat := HI.out.data b5
  have e0 : w5.cell? ⟨db, doff, none⟩ = some (.int .u8 x0) := by have := hdat 0 (by rw [HI.out.len]; omega); rw [HX.out.e0] at this; exact this
  have e1 : w5.cell? ⟨db, doff + 1, none⟩ = some (.int .u8 x1) := by have := hdat 1 (by rw [HI.out.len]; omega); rw [HX.out.e1] at this; exact this
  have e2 : w5.cell? ⟨db, doff + 2, none⟩ = some (.int .u8 x2) := by have := hdat 2 (by rw [HI.out.len]; omega); rw [HX.out.e2] at this; exact this
  have e3 : w5.cell? ⟨db, doff + 3, none⟩ = some (.int .u8 x3) := by have := hdat 3 (by rw [HI.out.len]; omega); rw [HX.out.e3] at this; exact this
  have e4 : w5.cell? ⟨db, doff + 4, none⟩ = some (.int .u8 x4) := by have := hdat 4 (by rw [HI.out.len]; omega); rw [HX.out.e4] at this; exact this
  have e5 : w5.cell? ⟨db, doff + 5, none⟩ = some (.int .u8 x5) := by have := hdat 5 (by rw [HI.out.len]; omega); rw [HX.out.e5] at this; exact this
  clear hdat
  have i0 : 0 < dn := by omega
  have i1 : 1 < dn := by omega
  have i2 : 2 < dn := by omega
  have i3 : 3 < dn := by omega
  have i4 : 4 < dn := by omega
  have i5 : 5 < dn := by omega
  have nn := nil_nil
  have o1 : bits .or .i64 (x0 * 256) x1 = (n : Int) := or_two HX.out.b0 HX.out.b1 HBN.out
  obtain ⟨y1, y2, o2, o3, o4⟩ := or_four HX.out.b2 HX.out.b3 HX.out.b4 HX.out.b5 HNU.out
  have t7 : ((n : Int) == 0) = true := by simp; omega
  subst hn0
  go_wp2
  go_quiet (fail)
  go_wp2
  go_quiet (fail)
  go_wp2
  go_ret
  exact ⟨rfl, ⟨b5.os, b5.tape, b5.output, b5.size, b5.block⟩⟩

set_option maxRecDepth 100000 in
set_option maxHeartbeats 2000000 in
theorem model_full_F (stepb : Int) (db doff dn dc n : Nat) (dz : List Int) (x0 x1 x2 x3 x4 x5 num : Int) (a0 a1 : Addr) (w : World) (hS : Sent a0 a1 w) (hI : In w (some ⟨db, doff, none⟩) dn dc dz) (hle : dn ≤ dc) (hcap : dc ≤ maxLen) (hd : dn ≤ 1048576) (s0 : 0 ≤ stepb) (s1 : stepb ≤ 255) (h6 : 6 ≤ dn)
    (hx : Six dz x0 x1 x2 x3 x4 x5) (hbn : Lib.beZ [x0, x1] = n) (hnum : Lib.beZ [x2, x3, x4, x5] = num) (hn0 : 0 < n) (hfit : 6 + n ≤ dn) :
    Calls Ybad.prog 3 #[.slice (some ⟨db, doff, none⟩) dn dc, .int .u8 stepb, .bool false] w fun e w' => e = .returned (.bool true) ∧ Below w.heap.size w w' := by
  have HC : Hid _ := hcap
  unfold maxLen at hcap
  have t2 : ((dn : Int) == 0) = false := by simp; omega
  have t2' : ¬ dn = 0 := by omega
  have t3 : decide ((dn : Int) < 6) = false := by simp; omega
  have HX : Hid _ := hx
  have HBN : Hid _ := hbn
  have HNU : Hid _ := hnum
  have hn65 : n ≤ 65535 := hx.bn hbn
  have p0 := hx.b0; have p1 := hx.b1; have p2 := hx.b2; have p3 := hx.b3; have p4 := hx.b4; have p5 := hx.b5
  clear hx hbn hnum
  have hc0 := hS.c0
  have hc1 := hS.c1
  have t1 : decide ((1048576 : Int) < (dn : Int)) = false := by first | (simp; done) | (simp; omega)
  have HS : Hid _ := hS
  have HI : Hid _ := hI
  clear hS hI
  go_enter Ybad.func3, Ybad.ntmps3
  go_wp2_with fail
  refine Calls.mono (num_full w.heap.size n db doff dn dc _ 36 (.pointer (some a0)) dz _ ⟨(heap_alloc_new w _), HI.out.data (below_one w _), HI.out.len, hle, HC.out, by have := HI.out.blk (by omega); omega⟩ hn65 (by omega) HX.out.bytes (by rw [HX.out.e0, HX.out.e1]; exact HBN.out) num (by rw [HX.out.e2, HX.out.e3, HX.out.e4, HX.out.e5]; exact HNU.out)) ?_
  rintro e w5 ⟨v, rfl, r1, r3, r2⟩
  have b5 : Below w.heap.size w w5 := (below_one w _).trans (r2.below (by omega) (by simp <;> omega))
  have c1 : w5.cell? ⟨w.heap.size, 1, none⟩ = some (.int .i64 (6 + (n : Int))) := by rw [(own_block r1.box).1 1]; rfl
  obtain ⟨g, hg, rfl, hrow⟩ : ∃ g, w.heap.size ≤ g ∧ v = .slice (some ⟨g, 0, none⟩) n n ∧ w5.heap[g]? = some (.cells (taken dz 6 n).toArray 5 (0, 0)) := by
    rcases r3 with ⟨h, _⟩ | ⟨_, g, h1, h2, h3⟩
    · omega
    · exact ⟨g, Nat.le_trans (by simp <;> omega) h1, h2, h3⟩
  have CE : Hid (∀ q, Calls Ybad.prog 7 #[.slice (some ⟨g, 0, none⟩) n n, .slice (some ⟨db, doff + 6, none⟩) n (dc - 6)] (w5.drewN q) fun e w' => e = .returned (.bool true) ∧ ∃ r, w' = (w5.drewN q).drewN r) := fun q => eq_part (W := w5.drewN q) hrow r1.data (by rw [r1.lenEq]; exact hfit) (by omega)
  clear r1 r2 r3 hrow
  have hdat := HI.out.data b5
  have e0 : w5.cell? ⟨db, doff, none⟩ = some (.int .u8 x0) := by have := hdat 0 (by rw [HI.out.len]; omega); rw [HX.out.e0] at this; exact this
  have e1 : w5.cell? ⟨db, doff + 1, none⟩ = some (.int .u8 x1) := by have := hdat 1 (by rw [HI.out.len]; omega); rw [HX.out.e1] at this; exact this
  have e2 : w5.cell? ⟨db, doff + 2, none⟩ = some (.int .u8 x2) := by have := hdat 2 (by rw [HI.out.len]; omega); rw [HX.out.e2] at this; exact this
  have e3 : w5.cell? ⟨db, doff + 3, none⟩ = some (.int .u8 x3) := by have := hdat 3 (by rw [HI.out.len]; omega); rw [HX.out.e3] at this; exact this
  have e4 : w5.cell? ⟨db, doff + 4, none⟩ = some (.int .u8 x4) := by have := hdat 4 (by rw [HI.out.len]; omega); rw [HX.out.e4] at this; exact this
  have e5 : w5.cell? ⟨db, doff + 5, none⟩ = some (.int .u8 x5) := by have := hdat 5 (by rw [HI.out.len]; omega); rw [HX.out.e5] at this; exact this
  clear hdat
  have i0 : 0 < dn := by omega
  have i1 : 1 < dn := by omega
  have i2 : 2 < dn := by omega
  have i3 : 3 < dn := by omega
  have i4 : 4 < dn := by omega
  have i5 : 5 < dn := by omega
  have nn := nil_nil
  have o1 : bits .or .i64 (x0 * 256) x1 = (n : Int) := or_two HX.out.b0 HX.out.b1 HBN.out
  obtain ⟨y1, y2, o2, o3, o4⟩ := or_four HX.out.b2 HX.out.b3 HX.out.b4 HX.out.b5 HNU.out
  have t7 : ((n : Int) == 0) = false := by simp; omega
  have t7' : ¬ n = 0 := by omega
  have t8 : decide ((dn : Int) - 6 < (n : Int)) = false := by simp; omega
  have t8' : ¬ (dn : Int) - 6 < (n : Int) := by omega
  have f1 : IntKind.i64.wrap (6 + (n : Int)) = 6 + (n : Int) := by rw [IntKind.wrap_i64]; omega
  have f2 : (6 : Int) + (n : Int) ≤ (dc : Int) := by omega
  have f3 : (6 : Int) ≤ 6 + (n : Int) := by omega
  have f4 : ((6 : Int) + (n : Int)).toNat = 6 + n := by omega
  have f5 : ¬ dc = 6 := by omega
  have f6 : ¬ 6 = dc := by omega
  have f7 : 6 + n - 6 = n := by omega
  have f8 : 6 ≤ dc := by omega
  have u22 := Ybad.underlying22
  go_wp2
  go_quiet (fail)
  go_wp2
  go_quiet (fail)
  go_wp2_with fail
  refine Calls.mono (CE.out _) ?_
  rintro e w6 ⟨rfl, q, hq⟩
  subst hq
  go_wp2
  go_ret
  exact ⟨rfl, ⟨b5.os, b5.tape, b5.output, b5.size, b5.block⟩⟩

set_option maxRecDepth 100000 in
set_option maxHeartbeats 2000000 in
theorem model_full_T (stepb : Int) (db doff dn dc n : Nat) (dz : List Int) (x0 x1 x2 x3 x4 x5 num : Int) (a0 a1 : Addr) (w : World) (hS : Sent a0 a1 w) (hI : In w (some ⟨db, doff, none⟩) dn dc dz) (hle : dn ≤ dc) (hcap : dc ≤ maxLen) (hd : dn ≤ 1048576) (s0 : 0 ≤ stepb) (s1 : stepb ≤ 255) (h6 : 6 ≤ dn)
    (hx : Six dz x0 x1 x2 x3 x4 x5) (hbn : Lib.beZ [x0, x1] = n) (hnum : Lib.beZ [x2, x3, x4, x5] = num) (hn0 : 0 < n) (hfit : 6 + n ≤ dn) :
    Calls Ybad.prog 3 #[.slice (some ⟨db, doff, none⟩) dn dc, .int .u8 stepb, .bool true] w fun e w' => e = .returned (.bool true) ∧ Below w.heap.size w w' := by
  have HC : Hid _ := hcap
  unfold maxLen at hcap
  have t2 : ((dn : Int) == 0) = false := by simp; omega
  have t2' : ¬ dn = 0 := by omega
  have t3 : decide ((dn : Int) < 6) = false := by simp; omega
  have HX : Hid _ := hx
  have HBN : Hid _ := hbn
  have HNU : Hid _ := hnum
  have hn65 : n ≤ 65535 := hx.bn hbn
  have p0 := hx.b0; have p1 := hx.b1; have p2 := hx.b2; have p3 := hx.b3; have p4 := hx.b4; have p5 := hx.b5
  clear hx hbn hnum
  have hc0 := hS.c0
  have hc1 := hS.c1
  have t1 : decide ((1048576 : Int) < (dn : Int)) = false := by first | (simp; done) | (simp; omega)
  have HS : Hid _ := hS
  have HI : Hid _ := hI
  clear hS hI
  go_enter Ybad.func3, Ybad.ntmps3
  go_wp2_with fail
  refine Calls.mono (new_err _ w) ?_
  rintro e w1 ⟨rfl, hw1⟩
  have d1 : w1.cell? ⟨1, 0, none⟩ = some (errV a1) := by
    rw [hw1, World.cell?_of_block (w := w) (Below.heap_alloc _ _ _ (World.block_lt_of_cell? w ⟨1, 0, none⟩ hc1))]; exact hc1
  subst hw1
  go_wp2_with fail
  refine Calls.mono (num_full (w.heap.size + 1) n db doff dn dc _ 36 (.pointer (some ⟨w.heap.size, 0, none⟩)) dz _ ⟨(box_two w _ _), HI.out.data (below_two w _ _), HI.out.len, hle, HC.out, by have := HI.out.blk (by omega); omega⟩ hn65 (by omega) HX.out.bytes (by rw [HX.out.e0, HX.out.e1]; exact HBN.out) num (by rw [HX.out.e2, HX.out.e3, HX.out.e4, HX.out.e5]; exact HNU.out)) ?_
  rintro e w5 ⟨v, rfl, r1, r3, r2⟩
  have b5 : Below w.heap.size w w5 := (below_two w _ _).trans (r2.below (by omega) (by simp <;> omega))
  have c1 : w5.cell? ⟨(w.heap.size + 1), 1, none⟩ = some (.int .i64 (6 + (n : Int))) := by rw [(own_block r1.box).1 1]; rfl
  obtain ⟨g, hg, rfl, hrow⟩ : ∃ g, w.heap.size ≤ g ∧ v = .slice (some ⟨g, 0, none⟩) n n ∧ w5.heap[g]? = some (.cells (taken dz 6 n).toArray 5 (0, 0)) := by
    rcases r3 with ⟨h, _⟩ | ⟨_, g, h1, h2, h3⟩
    · omega
    · exact ⟨g, Nat.le_trans (by simp <;> omega) h1, h2, h3⟩
  have CE : Hid (∀ q, Calls Ybad.prog 7 #[.slice (some ⟨g, 0, none⟩) n n, .slice (some ⟨db, doff + 6, none⟩) n (dc - 6)] (w5.drewN q) fun e w' => e = .returned (.bool true) ∧ ∃ r, w' = (w5.drewN q).drewN r) := fun q => eq_part (W := w5.drewN q) hrow r1.data (by rw [r1.lenEq]; exact hfit) (by omega)
  clear r1 r2 r3 hrow
  have hdat := HI.out.data b5
  have e0 : w5.cell? ⟨db, doff, none⟩ = some (.int .u8 x0) := by have := hdat 0 (by rw [HI.out.len]; omega); rw [HX.out.e0] at this; exact this
  have e1 : w5.cell? ⟨db, doff + 1, none⟩ = some (.int .u8 x1) := by have := hdat 1 (by rw [HI.out.len]; omega); rw [HX.out.e1] at this; exact this
  have e2 : w5.cell? ⟨db, doff + 2, none⟩ = some (.int .u8 x2) := by have := hdat 2 (by rw [HI.out.len]; omega); rw [HX.out.e2] at this; exact this
  have e3 : w5.cell? ⟨db, doff + 3, none⟩ = some (.int .u8 x3) := by have := hdat 3 (by rw [HI.out.len]; omega); rw [HX.out.e3] at this; exact this
  have e4 : w5.cell? ⟨db, doff + 4, none⟩ = some (.int .u8 x4) := by have := hdat 4 (by rw [HI.out.len]; omega); rw [HX.out.e4] at this; exact this
  have e5 : w5.cell? ⟨db, doff + 5, none⟩ = some (.int .u8 x5) := by have := hdat 5 (by rw [HI.out.len]; omega); rw [HX.out.e5] at this; exact this
  clear hdat
  have i0 : 0 < dn := by omega
  have i1 : 1 < dn := by omega
  have i2 : 2 < dn := by omega
  have i3 : 3 < dn := by omega
  have i4 : 4 < dn := by omega
  have i5 : 5 < dn := by omega
  have nn := nil_nil
  have o1 : bits .or .i64 (x0 * 256) x1 = (n : Int) := or_two HX.out.b0 HX.out.b1 HBN.out
  obtain ⟨y1, y2, o2, o3, o4⟩ := or_four HX.out.b2 HX.out.b3 HX.out.b4 HX.out.b5 HNU.out
  have t7 : ((n : Int) == 0) = false := by simp; omega
  have t7' : ¬ n = 0 := by omega
  have t8 : decide ((dn : Int) - 6 < (n : Int)) = false := by simp; omega
  have t8' : ¬ (dn : Int) - 6 < (n : Int) := by omega
  have f1 : IntKind.i64.wrap (6 + (n : Int)) = 6 + (n : Int) := by rw [IntKind.wrap_i64]; omega
  have f2 : (6 : Int) + (n : Int) ≤ (dc : Int) := by omega
  have f3 : (6 : Int) ≤ 6 + (n : Int) := by omega
  have f4 : ((6 : Int) + (n : Int)).toNat = 6 + n := by omega
  have f5 : ¬ dc = 6 := by omega
  have f6 : ¬ 6 = dc := by omega
  have f7 : 6 + n - 6 = n := by omega
  have f8 : 6 ≤ dc := by omega
  have u22 := Ybad.underlying22
  go_wp2
  go_quiet (fail)
  go_wp2
  go_quiet (fail)
  go_wp2_with fail
  refine Calls.mono (CE.out _) ?_
  rintro e w6 ⟨rfl, q, hq⟩
  subst hq
  go_wp2
  go_ret
  exact ⟨rfl, ⟨b5.os, b5.tape, b5.output, b5.size, b5.block⟩⟩

theorem model_any_F (stepb : Int) (d : Option Addr) (dn dc : Nat) (dz : List Int) (a0 a1 : Addr) (w : World) (hS : Sent a0 a1 w) (hI : In w d dn dc dz) (hle : dn ≤ dc) (hcap : dc ≤ maxLen) (hby : ∀ z ∈ dz, 0 ≤ z ∧ z < 256) (s0 : 0 ≤ stepb) (s1 : stepb ≤ 255) :
    Calls Ybad.prog 3 #[.slice d dn dc, .int .u8 stepb, .bool false] w fun e w' => e = .returned (.bool true) ∧ Below w.heap.size w w' := by
  rcases Nat.lt_or_ge 1048576 dn with h | hd
  · exact model_long d dn dc _ _ w h
  · rcases Nat.eq_zero_or_pos dn with h0 | h0
    · subst h0
      exact model_zero_F stepb d dc a0 a1 w hS trivial s0 s1
    · cases d with
      | none => exact absurd (hI.nil rfl).1 (by omega)
      | some ad =>
        obtain ⟨db, doff, spot⟩ := ad
        have hs : spot = none := by simpa [Addr.add] using World.cell?_spot (hI.cell _ rfl 0 h0)
        subst hs
        rcases Nat.lt_or_ge dn 6 with h6 | h6
        · exact model_hdr_F stepb db doff dn dc dz a0 a1 w hS hI hle hcap s0 s1 h0 h6
        · have bb : ∀ i, i < 6 → 0 ≤ dz.getD i 0 ∧ dz.getD i 0 < 256 := fun i hi => by
            have hl : i < dz.length := by rw [hI.len]; omega
            have : dz.getD i 0 = dz[i] := by simp [hl]
            rw [this]
            exact hby _ (List.getElem_mem hl)
          have hx : Six dz (dz.getD 0 0) (dz.getD 1 0) (dz.getD 2 0) (dz.getD 3 0) (dz.getD 4 0) (dz.getD 5 0) := ⟨rfl, rfl, rfl, rfl, rfl, rfl, bb 0 (by decide), bb 1 (by decide), bb 2 (by decide), bb 3 (by decide), bb 4 (by decide), bb 5 (by decide)⟩
          obtain ⟨n, hn⟩ : ∃ n : Nat, Lib.beZ [dz.getD 0 0, dz.getD 1 0] = n := by
            refine ⟨(Lib.beZ [dz.getD 0 0, dz.getD 1 0]).toNat, ?_⟩
            have h1 := bb 0 (by decide)
            have h2 := bb 1 (by decide)
            simp only [Lib.beZ, Lib.beFromZ]
            omega
          rcases Nat.eq_zero_or_pos n with hz | hz
          · exact model_empty_F stepb db doff dn dc n dz _ _ _ _ _ _ _ a0 a1 w hS hI hle hcap hd s0 s1 h6 hx hn rfl hz
          · rcases Nat.lt_or_ge dn (6 + n) with hq | hq
            · exact model_short_F stepb db doff dn dc n dz _ _ _ _ _ _ _ a0 a1 w hS hI hle hcap hd s0 s1 h6 hx hn rfl hq
            · exact model_full_F stepb db doff dn dc n dz _ _ _ _ _ _ _ a0 a1 w hS hI hle hcap hd s0 s1 h6 hx hn rfl hz hq

theorem model_any_T (stepb : Int) (d : Option Addr) (dn dc : Nat) (dz : List Int) (a0 a1 : Addr) (w : World) (hS : Sent a0 a1 w) (hI : In w d dn dc dz) (hle : dn ≤ dc) (hcap : dc ≤ maxLen) (hby : ∀ z ∈ dz, 0 ≤ z ∧ z < 256) (s0 : 0 ≤ stepb) (s1 : stepb ≤ 255) :
    Calls Ybad.prog 3 #[.slice d dn dc, .int .u8 stepb, .bool true] w fun e w' => e = .returned (.bool true) ∧ Below w.heap.size w w' := by
  rcases Nat.lt_or_ge 1048576 dn with h | hd
  · exact model_long d dn dc _ _ w h
  · rcases Nat.eq_zero_or_pos dn with h0 | h0
    · subst h0
      exact model_zero_T stepb d dc a0 a1 w hS trivial s0 s1
    · cases d with
      | none => exact absurd (hI.nil rfl).1 (by omega)
      | some ad =>
        obtain ⟨db, doff, spot⟩ := ad
        have hs : spot = none := by simpa [Addr.add] using World.cell?_spot (hI.cell _ rfl 0 h0)
        subst hs
        rcases Nat.lt_or_ge dn 6 with h6 | h6
        · exact model_hdr_T stepb db doff dn dc dz a0 a1 w hS hI hle hcap s0 s1 h0 h6
        · have bb : ∀ i, i < 6 → 0 ≤ dz.getD i 0 ∧ dz.getD i 0 < 256 := fun i hi => by
            have hl : i < dz.length := by rw [hI.len]; omega
            have : dz.getD i 0 = dz[i] := by simp [hl]
            rw [this]
            exact hby _ (List.getElem_mem hl)
          have hx : Six dz (dz.getD 0 0) (dz.getD 1 0) (dz.getD 2 0) (dz.getD 3 0) (dz.getD 4 0) (dz.getD 5 0) := ⟨rfl, rfl, rfl, rfl, rfl, rfl, bb 0 (by decide), bb 1 (by decide), bb 2 (by decide), bb 3 (by decide), bb 4 (by decide), bb 5 (by decide)⟩
          obtain ⟨n, hn⟩ : ∃ n : Nat, Lib.beZ [dz.getD 0 0, dz.getD 1 0] = n := by
            refine ⟨(Lib.beZ [dz.getD 0 0, dz.getD 1 0]).toNat, ?_⟩
            have h1 := bb 0 (by decide)
            have h2 := bb 1 (by decide)
            simp only [Lib.beZ, Lib.beFromZ]
            omega
          rcases Nat.eq_zero_or_pos n with hz | hz
          · exact model_empty_T stepb db doff dn dc n dz _ _ _ _ _ _ _ a0 a1 w hS hI hle hcap hd s0 s1 h6 hx hn rfl hz
          · rcases Nat.lt_or_ge dn (6 + n) with hq | hq
            · exact model_short_T stepb db doff dn dc n dz _ _ _ _ _ _ _ a0 a1 w hS hI hle hcap hd s0 s1 h6 hx hn rfl hq
            · exact model_full_T stepb db doff dn dc n dz _ _ _ _ _ _ _ a0 a1 w hS hI hle hcap hd s0 s1 h6 hx hn rfl hz hq

end Go.Proofs.YbulkcjvoDoor

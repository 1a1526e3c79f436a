/-
  (*zzs4291areader).Read.
-/
import Derived.Test.YbulkcjvoDoorProg
import Derived.WalkKit
import Derived.Deep.QuietTactic
import Derived.BigQuiet
import Derived.WalkSmall
import Derived.Laws.CopyOwn
import Derived.Deep.RegionHeldLaw
namespace Go.Proofs.YbulkcjvoDoor
open Go.RowKit
set_option linter.unusedVariables false

/-- A block of the call's own, read and written cell by cell. -/
theorem own_block {W : World} {g : Nat} {cs : Array Value} {e : TypeId} (h : W.heap[g]? = some (.cells cs e (0, 0))) : (∀ j, W.cell? ⟨g, j, none⟩ = cs[j]?) ∧ ∀ j, W.frozen? ⟨g, j, none⟩ = false := by
  refine ⟨fun j => cell_of_row W g j cs e (0, 0) h, fun j => ?_⟩
  simp [World.frozen?, h]
theorem lt_of_get {W : World} {g : Nat} {o : Obj} (h : W.heap[g]? = some o) : g < W.heap.size := (Array.getElem?_eq_some_iff.1 h).1

/-- The reader's variable: the data, how far they are read, the step, the error at the end. -/
abbrev rdCells (dv : Value) (pos step : Int) (ev : Value) : Array Value := #[dv, .int .i64 pos, .int .i64 step, ev]

/-- The data: the bytes zs from place doff of block db on. -/
def Data (W : World) (db doff : Nat) (zs : List Int) : Prop := ∀ j, j < zs.length → W.cell? ⟨db, doff + j, none⟩ = some (.int .u8 (zs.getD j 0))

/-- Nothing but blocks a and b has turned. -/
structure But (a b : Nat) (W W' : World) : Prop where
  os : W'.os = W.os
  tape : W'.tape = W.tape
  output : W'.output = W.output
  size : W.heap.size ≤ W'.heap.size
  block : ∀ k, k < W.heap.size → k ≠ a → k ≠ b → W'.heap[k]? = W.heap[k]?

theorem But.refl (a b : Nat) (W : World) : But a b W W := ⟨rfl, rfl, rfl, Nat.le_refl _, fun _ _ _ _ => rfl⟩
theorem But.trans {a b : Nat} {A B C : World} (h : But a b A B) (k : But a b B C) : But a b A C :=
  ⟨k.os.trans h.os, k.tape.trans h.tape, k.output.trans h.output, Nat.le_trans h.size k.size, fun i hi h1 h2 => (k.block i (Nat.lt_of_lt_of_le hi h.size) h1 h2).trans (h.block i hi h1 h2)⟩
theorem But.drewN {a b : Nat} {A B : World} (h : But a b A B) (n : Nat) : But a b A (B.drewN n) := ⟨h.os, h.tape, h.output, h.size, h.block⟩
theorem But.setRow {a b g : Nat} {A B : World} (h : But a b A B) (hg : g = a ∨ g = b) (cs : Array Value) : But a b A (B.setRow g cs) :=
  h.trans ⟨rfl, rfl, rfl, by simp, fun k _ h1 h2 => setRow_other B g k cs (by rcases hg with rfl | rfl <;> assumption)⟩
theorem But.cell {a b : Nat} {W W' : World} (h : But a b W W') {p : Addr} {v : Value} (hc : W.cell? p = some v) (h1 : p.block ≠ a) (h2 : p.block ≠ b) : W'.cell? p = some v := by
  rw [World.cell?_of_block (w := W) (h.block p.block (World.block_lt_of_cell? W p hc) h1 h2)]
  exact hc
theorem But.data {a b : Nat} {W W' : World} (h : But a b W W') {db doff : Nat} {zs : List Int} (hd : Data W db doff zs) (h1 : db ≠ a) (h2 : db ≠ b) : Data W' db doff zs :=
  fun j hj => h.cell (hd j hj) h1 h2

theorem ret_two {a b c d : Value} (h1 : a = c) (h2 : b = d) : Ending.returned (.tuple #[a, b]) = .returned (.tuple #[c, d]) := by rw [h1, h2]

set_option maxHeartbeats 400000 in
/-- At the end: nothing more, and the error. -/
theorem read_end (rb : Nat) (da : Option Addr) (len dcap : Nat) (pos step : Int) (et : TypeId) (ex pv : Value) (w : World)
    (hr : w.heap[rb]? = some (.cells (rdCells (.slice da len dcap) pos step (.iface et ex)) 28 (0, 0))) (he : (len : Int) ≤ pos) :
    Calls Ybad.prog 29 #[.pointer (some ⟨rb, 0, none⟩), pv] w fun e w' => e = .returned (.tuple #[.int .i64 0, .iface et ex]) ∧ ∃ n, w' = w.drewN n := by
  obtain ⟨hc, hf⟩ := own_block hr
  have c0 : w.cell? ⟨rb, 0, none⟩ = some (.slice da len dcap) := by rw [hc]; rfl
  have c1 : w.cell? ⟨rb, 1, none⟩ = some (.int .i64 pos) := by rw [hc]; rfl
  have c3 : w.cell? ⟨rb, 3, none⟩ = some (.iface et ex) := by rw [hc]; rfl
  clear hc hf hr
  go_enter Ybad.func29, Ybad.ntmps29
  go_wp2
  go_quiet (fail)
  rename_i q1
  go_wp2
  go_quiet (fail)
  go_wp2
  go_ret2
  exact ⟨rfl, _, World.drewN_drewN ..⟩

/-- The copy, as a step of a region that draws: the row behind it. -/
theorem step_copy_row {P : Program} {ops : Array Oper} {o : Oper} {a : Act} {w : World} {K : Act → World → Prop} {Q : Exit → Act → World → Prop} {E : Prop} (hgd : o.guard = none) (d s : Operand) (dT sT : TypeId)
    (ho : o.op = .call { callee := .builtin .copy, args := #[d, s], argTypes := #[dT, sT] }) (elem : TypeId) (hu : P.underlying dT = some (.slice elem)) (hsz : (P.info? elem).map (·.size) = some 1)
    (g off dLen dCap : Nat) (ad : Addr) (sLen sCap : Nat) (hd : a.eval d = .slice (some ⟨g, off, none⟩) dLen dCap) (hs : a.eval s = .slice (some ad) sLen sCap)
    (cur : List Value) (t : TypeId) (hg : w.heap[g]? = some (.cells cur.toArray t (0, 0))) (cs : List Value) (hn : cs.length = Nat.min sLen dLen)
    (hsrc : ∀ j v, cs[j]? = some v → w.cell? (ad.add j) = some v) (hfit : off + cs.length ≤ cur.length) (h1 : ∀ v ∈ cs, v.oneCell' = true)
    (h : ∀ w', Hid (w' = w.setRow g (splice cur off cs).toArray) → K (a.put o.dst (goInt cs.length)) w') :
    if Region.wanted o (yielded ops a.tmps) = true then Oper.wp P o a w K Q else E := by
  have hw : Region.wanted o (yielded ops a.tmps) = true := by simp [Region.wanted, hgd]
  rw [if_pos hw]
  have hrun := run_copy_row (P := P) w dT sT o.type elem g off dLen dCap ad sLen sCap cur.toArray t cs hu hsz hg hn hsrc (by simpa using hfit) h1
  unfold Oper.wp
  simp [execOp, ho, resolve, invoke, builtin, hd, hs, hrun, Result.andThen]
  exact h _ (show _ = _ by simp [splice])

/-- What a read of k bytes lays. -/
def taken (zs : List Int) (pos k : Nat) : List Value := ((zs.drop pos).take k).map (Value.int .u8)
theorem taken_len {zs : List Int} {pos k : Nat} (h : pos + k ≤ zs.length) : (taken zs pos k).length = k := by simp [taken]; omega
theorem taken_at {zs : List Int} {pos k j : Nat} (h : pos + k ≤ zs.length) (hj : j < k) : (taken zs pos k)[j]? = some (.int .u8 (zs.getD (pos + j) 0)) := by
  have h1 : pos + j < zs.length := by omega
  simp [taken, hj, h1]
theorem taken_one {zs : List Int} {pos k : Nat} : ∀ v ∈ taken zs pos k, v.oneCell' = true := by
  intro v hv
  obtain ⟨x, _, rfl⟩ := List.mem_map.1 hv
  rfl


theorem src_ok {w : World} {db doff pos k : Nat} {zs : List Int} (h : Data w db doff zs) (hk : pos + k ≤ zs.length) : ∀ j v, (taken zs pos k)[j]? = some v → w.cell? ((⟨db, doff + pos, none⟩ : Addr).add j) = some v := by
  intro j v hj
  have hjk : j < k := by
    have := (List.getElem?_eq_some_iff.1 hj).1
    rwa [taken_len hk] at this
  rw [taken_at hk hjk] at hj
  have := h (pos + j) (by omega)
  rw [Addr.add_lit, Nat.add_assoc, this, ← hj]

/-- The reader behind the copy. -/
theorem after_copy {w w9 : World} {rb pb : Nat} {cs old : Array Value} {T : TypeId} {dv ev : Value} {pos step : Int} (hr : w.heap[rb]? = some (.cells (rdCells dv pos step ev) 28 (0, 0))) (hp : w.heap[pb]? = some (.cells old T (0, 0))) (hne : rb ≠ pb) (h : Hid (w9 = w.setRow pb cs)) :
    w9.cell? ⟨rb, 0, none⟩ = some dv ∧ w9.cell? ⟨rb, 1, none⟩ = some (.int .i64 pos) ∧ w9.frozen? ⟨rb, 1, none⟩ = false ∧ Hid (w9.heap[rb]? = some (.cells (rdCells dv pos step ev) 28 (0, 0)) ∧ w9.heap[pb]? = some (.cells cs T (0, 0)) ∧ But rb pb w w9) := by
  have hb : w9.heap[rb]? = some (.cells (rdCells dv pos step ev) 28 (0, 0)) := by
    rw [h.out, setRow_other w pb rb cs hne]; exact hr
  have hb2 : w9.heap[pb]? = some (.cells cs T (0, 0)) := by
    rw [h.out]; exact setRow_heap w pb old cs T (0, 0) hp
  obtain ⟨hc, hf⟩ := own_block hb
  exact ⟨by rw [hc]; rfl, by rw [hc]; rfl, hf 1, hb, hb2, by rw [h.out]; exact (But.refl rb pb w).setRow (.inr rfl) cs⟩

/-- The reader's place moves on. -/
theorem pos_set {w : World} {rb pb : Nat} {T : TypeId} {row : Array Value} {dv ev : Value} {pos step : Int} (p' : Int) (hr : w.heap[rb]? = some (.cells (rdCells dv pos step ev) 28 (0, 0))) (hp : w.heap[pb]? = some (.cells row T (0, 0))) (hne : rb ≠ pb) :
    (w.setCell ⟨rb, 1, none⟩ (.int .i64 p')).heap[rb]? = some (.cells (rdCells dv p' step ev) 28 (0, 0)) ∧ (w.setCell ⟨rb, 1, none⟩ (.int .i64 p')).heap[pb]? = some (.cells row T (0, 0)) ∧ But rb pb w (w.setCell ⟨rb, 1, none⟩ (.int .i64 p')) := by
  have e := setCell_eq_setRow w rb 1 _ 28 (0, 0) (.int .i64 p') hr
  refine ⟨?_, ?_, ?_⟩
  · rw [e]; exact setRow_heap w rb _ _ 28 (0, 0) hr
  · rw [e, setRow_other w rb pb _ (fun h => hne h.symm)]; exact hp
  · rw [e]; exact (But.refl rb pb w).setRow (.inl rfl) _

set_option maxHeartbeats 1000000 in
theorem read_a1 (rb pb po m mc db doff len dcap pos rest : Nat) (step : Int) (et : TypeId) (ex : Value) (buf : List Value) (T : TypeId) (zs : List Int) (w : World)
    (hr : w.heap[rb]? = some (.cells (rdCells (.slice (some ⟨db, doff, none⟩) len dcap) pos step (.iface et ex)) 28 (0, 0))) (hp : w.heap[pb]? = some (.cells buf.toArray T (0, 0)))
    (hd : Data w db doff zs) (hz : zs.length = len) (hlen : len ≤ dcap) (hcap : dcap ≤ maxLen) (hm0 : 0 < m) (hm : m ≤ mc) (hmc : po + m ≤ buf.length) (hmx : mc ≤ maxLen) (hlt : pos + rest = len) (h0 : 0 < rest) (hne : rb ≠ pb) (hs : step ≤ 0) (hk : m ≤ rest) :
    Calls Ybad.prog 29 #[.pointer (some ⟨rb, 0, none⟩), .slice (some ⟨pb, po, none⟩) m mc] w fun e w' => e = .returned (.tuple #[.int .i64 (m : Nat), .nilIface]) ∧
      w'.heap[rb]? = some (.cells (rdCells (.slice (some ⟨db, doff, none⟩) len dcap) ((pos + m : Nat) : Int) step (.iface et ex)) 28 (0, 0)) ∧ w'.heap[pb]? = some (.cells (splice buf po (taken zs pos m)).toArray T (0, 0)) ∧ But rb pb w w' := by
  unfold maxLen at hcap hmx
  have hk1 : pos + m ≤ zs.length := by omega
  have hk2 : po + (taken zs pos m).length ≤ buf.length := by rw [taken_len hk1]; omega
  have hdd := hd
  obtain ⟨hc, hf⟩ := own_block hr
  have c0 : w.cell? ⟨rb, 0, none⟩ = some (.slice (some ⟨db, doff, none⟩) len dcap) := by rw [hc]; rfl
  have c1 : w.cell? ⟨rb, 1, none⟩ = some (.int .i64 pos) := by rw [hc]; rfl
  have c2 : w.cell? ⟨rb, 2, none⟩ = some (.int .i64 step) := by rw [hc]; rfl
  have HR : Hid _ := hr
  have HP : Hid _ := hp
  have HD : Hid _ := hdd
  have HK2 : Hid _ := hk2
  have HZ : Hid _ := hz
  have g0 : (len : Int) - (pos : Int) = (rest : Int) := by omega
  have g0w : IntKind.i64.wrap ((len : Int) - (pos : Int)) = (rest : Int) := by rw [g0, IntKind.wrap_i64]; omega
  have g0d : decide ((len : Int) ≤ (pos : Int)) = false := by simp; omega
  have g0e : ¬ len ≤ pos := by omega
  have t1 : decide (0 < step) = false := by simp; omega
  have t1' : ¬ 0 < step := by omega
  have t3 : decide ((rest : Int) < (m : Int)) = false := by simp; omega
  have t3' : ¬ rest < m := by omega

  have g1 : (pos : Int) + (m : Int) ≤ (dcap : Int) := by omega
  have g2 : ¬ dcap = pos := by omega
  have g3 : (m : Int) ≤ (mc : Int) := by omega
  have g4 : (pos : Int) + (m : Int) ≤ 9223372036854775807 := by omega
  have g5 : ¬ pos = dcap := by omega
  have g6 : (pos : Int) ≤ (pos : Int) + (m : Int) := by omega
  have g7 : IntKind.i64.wrap ((pos : Int) + (m : Int)) = (pos : Int) + (m : Int) := by rw [IntKind.wrap_i64]; omega
  have g8 : ((pos : Int) + (m : Int)).toNat = pos + m := by omega
  have g9 : ¬ pos = pos + m := by omega
  have g10 : m ≤ mc := by omega
  have g11 : pos + m ≤ dcap := by omega
  have HH : Hid (len ≤ dcap ∧ pos + rest = len) := ⟨hlen, hlt⟩
  clear hc hf hr hp hd hdd hk2 hz
  go_enter Ybad.func29, Ybad.ntmps29
  go_wp2
  go_quiet (fail)
  rename_i q1
  go_wp2
  go_quiet (fail)
  rename_i q2
  go_wp2
  go_region_held_law (fun w' => w'.cell? ⟨rb, 0, none⟩ = some (.slice (some ⟨db, doff, none⟩) len dcap) ∧ w'.cell? ⟨rb, 1, none⟩ = some (.int .i64 pos)) (first | exact ⟨c0, c1⟩ | exact ⟨by assumption, by assumption⟩)
    (first | (refine step_copy_row rfl (.tmp 57) (.tmp 72) 22 22 rfl 5 Ybad.underlying22 (by kernel_rfl) pb po _ _ _ _ _ rfl rfl buf T (by exact HP.out) (taken zs pos m) (by first | (simp [taken_len hk1]; done) | (rw [taken_len hk1]; show _ = min _ _; omega)) (src_ok HD.out hk1) (by exact HK2.out) taken_one ?_; intro w9 hw9; have s0 := after_copy (by exact HR.out) (by exact HP.out) hne hw9; obtain ⟨s1, s2, s3, s4⟩ := s0))
  clear c0 c1 c2
  go_wp2
  go_ret2
  obtain ⟨y1, y2, y3⟩ := s4.out
  obtain ⟨z1, z2, z3⟩ := pos_set ((pos : Int) + (m : Int)) y1 y2 hne
  have y4 : But rb pb w w9 := ⟨y3.os, y3.tape, y3.output, y3.size, y3.block⟩
  exact ⟨ret_two rfl rfl, by rw [Int.natCast_add]; exact z1, z2, y4.trans z3⟩

set_option maxHeartbeats 1000000 in
theorem read_a2 (rb pb po m mc db doff len dcap pos rest : Nat) (step : Int) (et : TypeId) (ex : Value) (buf : List Value) (T : TypeId) (zs : List Int) (w : World)
    (hr : w.heap[rb]? = some (.cells (rdCells (.slice (some ⟨db, doff, none⟩) len dcap) pos step (.iface et ex)) 28 (0, 0))) (hp : w.heap[pb]? = some (.cells buf.toArray T (0, 0)))
    (hd : Data w db doff zs) (hz : zs.length = len) (hlen : len ≤ dcap) (hcap : dcap ≤ maxLen) (hm0 : 0 < m) (hm : m ≤ mc) (hmc : po + m ≤ buf.length) (hmx : mc ≤ maxLen) (hlt : pos + rest = len) (h0 : 0 < rest) (hne : rb ≠ pb) (hs : step ≤ 0) (hk : rest < m) :
    Calls Ybad.prog 29 #[.pointer (some ⟨rb, 0, none⟩), .slice (some ⟨pb, po, none⟩) m mc] w fun e w' => e = .returned (.tuple #[.int .i64 (rest : Nat), .nilIface]) ∧
      w'.heap[rb]? = some (.cells (rdCells (.slice (some ⟨db, doff, none⟩) len dcap) ((pos + rest : Nat) : Int) step (.iface et ex)) 28 (0, 0)) ∧ w'.heap[pb]? = some (.cells (splice buf po (taken zs pos rest)).toArray T (0, 0)) ∧ But rb pb w w' := by
  unfold maxLen at hcap hmx
  have hk1 : pos + rest ≤ zs.length := by omega
  have hk2 : po + (taken zs pos rest).length ≤ buf.length := by rw [taken_len hk1]; omega
  have hdd := hd
  obtain ⟨hc, hf⟩ := own_block hr
  have c0 : w.cell? ⟨rb, 0, none⟩ = some (.slice (some ⟨db, doff, none⟩) len dcap) := by rw [hc]; rfl
  have c1 : w.cell? ⟨rb, 1, none⟩ = some (.int .i64 pos) := by rw [hc]; rfl
  have c2 : w.cell? ⟨rb, 2, none⟩ = some (.int .i64 step) := by rw [hc]; rfl
  have HR : Hid _ := hr
  have HP : Hid _ := hp
  have HD : Hid _ := hdd
  have HK2 : Hid _ := hk2
  have HZ : Hid _ := hz
  have g0 : (len : Int) - (pos : Int) = (rest : Int) := by omega
  have g0w : IntKind.i64.wrap ((len : Int) - (pos : Int)) = (rest : Int) := by rw [g0, IntKind.wrap_i64]; omega
  have g0d : decide ((len : Int) ≤ (pos : Int)) = false := by simp; omega
  have g0e : ¬ len ≤ pos := by omega
  have t1 : decide (0 < step) = false := by simp; omega
  have t1' : ¬ 0 < step := by omega
  have t3 : decide ((rest : Int) < (m : Int)) = true := by simp; omega
  have t3' : rest < m := by omega

  have g1 : (pos : Int) + (rest : Int) ≤ (dcap : Int) := by omega
  have g2 : ¬ dcap = pos := by omega
  have g3 : (rest : Int) ≤ (mc : Int) := by omega
  have g4 : (pos : Int) + (rest : Int) ≤ 9223372036854775807 := by omega
  have g5 : ¬ pos = dcap := by omega
  have g6 : (pos : Int) ≤ (pos : Int) + (rest : Int) := by omega
  have g7 : IntKind.i64.wrap ((pos : Int) + (rest : Int)) = (pos : Int) + (rest : Int) := by rw [IntKind.wrap_i64]; omega
  have g8 : ((pos : Int) + (rest : Int)).toNat = pos + rest := by omega
  have g9 : ¬ pos = pos + rest := by omega
  have g10 : rest ≤ mc := by omega
  have g11 : pos + rest ≤ dcap := by omega
  have HH : Hid (len ≤ dcap ∧ pos + rest = len) := ⟨hlen, hlt⟩
  clear hc hf hr hp hd hdd hk2 hz
  go_enter Ybad.func29, Ybad.ntmps29
  go_wp2
  go_quiet (fail)
  rename_i q1
  go_wp2
  go_quiet (fail)
  rename_i q2
  go_wp2
  go_region_held_law (fun w' => w'.cell? ⟨rb, 0, none⟩ = some (.slice (some ⟨db, doff, none⟩) len dcap) ∧ w'.cell? ⟨rb, 1, none⟩ = some (.int .i64 pos)) (first | exact ⟨c0, c1⟩ | exact ⟨by assumption, by assumption⟩)
    (first | (refine step_copy_row rfl (.tmp 57) (.tmp 72) 22 22 rfl 5 Ybad.underlying22 (by kernel_rfl) pb po _ _ _ _ _ rfl rfl buf T (by exact HP.out) (taken zs pos rest) (by first | (simp [taken_len hk1]; done) | (rw [taken_len hk1]; show _ = min _ _; omega)) (src_ok HD.out hk1) (by exact HK2.out) taken_one ?_; intro w9 hw9; have s0 := after_copy (by exact HR.out) (by exact HP.out) hne hw9; obtain ⟨s1, s2, s3, s4⟩ := s0))
  clear c0 c1 c2
  go_wp2
  go_ret2
  obtain ⟨y1, y2, y3⟩ := s4.out
  obtain ⟨z1, z2, z3⟩ := pos_set ((pos : Int) + (rest : Int)) y1 y2 hne
  have y4 : But rb pb w w9 := ⟨y3.os, y3.tape, y3.output, y3.size, y3.block⟩
  exact ⟨ret_two rfl rfl, by rw [Int.natCast_add]; exact z1, z2, y4.trans z3⟩

set_option maxHeartbeats 1000000 in
theorem read_b1 (rb pb po m mc db doff len dcap pos rest : Nat) (st : Nat) (et : TypeId) (ex : Value) (buf : List Value) (T : TypeId) (zs : List Int) (w : World)
    (hr : w.heap[rb]? = some (.cells (rdCells (.slice (some ⟨db, doff, none⟩) len dcap) pos (st : Int) (.iface et ex)) 28 (0, 0))) (hp : w.heap[pb]? = some (.cells buf.toArray T (0, 0)))
    (hd : Data w db doff zs) (hz : zs.length = len) (hlen : len ≤ dcap) (hcap : dcap ≤ maxLen) (hm0 : 0 < m) (hm : m ≤ mc) (hmc : po + m ≤ buf.length) (hmx : mc ≤ maxLen) (hlt : pos + rest = len) (h0 : 0 < rest) (hne : rb ≠ pb) (hs0 : 0 < st) (hs : m ≤ st) (hk : m ≤ rest) :
    Calls Ybad.prog 29 #[.pointer (some ⟨rb, 0, none⟩), .slice (some ⟨pb, po, none⟩) m mc] w fun e w' => e = .returned (.tuple #[.int .i64 (m : Nat), .nilIface]) ∧
      w'.heap[rb]? = some (.cells (rdCells (.slice (some ⟨db, doff, none⟩) len dcap) ((pos + m : Nat) : Int) (st : Int) (.iface et ex)) 28 (0, 0)) ∧ w'.heap[pb]? = some (.cells (splice buf po (taken zs pos m)).toArray T (0, 0)) ∧ But rb pb w w' := by
  unfold maxLen at hcap hmx
  have hk1 : pos + m ≤ zs.length := by omega
  have hk2 : po + (taken zs pos m).length ≤ buf.length := by rw [taken_len hk1]; omega
  have hdd := hd
  obtain ⟨hc, hf⟩ := own_block hr
  have c0 : w.cell? ⟨rb, 0, none⟩ = some (.slice (some ⟨db, doff, none⟩) len dcap) := by rw [hc]; rfl
  have c1 : w.cell? ⟨rb, 1, none⟩ = some (.int .i64 pos) := by rw [hc]; rfl
  have c2 : w.cell? ⟨rb, 2, none⟩ = some (.int .i64 (st : Int)) := by rw [hc]; rfl
  have HR : Hid _ := hr
  have HP : Hid _ := hp
  have HD : Hid _ := hdd
  have HK2 : Hid _ := hk2
  have HZ : Hid _ := hz
  have g0 : (len : Int) - (pos : Int) = (rest : Int) := by omega
  have g0w : IntKind.i64.wrap ((len : Int) - (pos : Int)) = (rest : Int) := by rw [g0, IntKind.wrap_i64]; omega
  have g0d : decide ((len : Int) ≤ (pos : Int)) = false := by simp; omega
  have g0e : ¬ len ≤ pos := by omega
  have t1 : decide ((0 : Int) < (st : Int)) = true := by simp; omega
  have t1' : 0 < st := by omega
  have t2 : decide ((st : Int) < (m : Int)) = false := by simp; omega
  have t2' : ¬ st < m := by omega
  have t3 : decide ((rest : Int) < (m : Int)) = false := by simp; omega
  have t3' : ¬ rest < m := by omega

  have g1 : (pos : Int) + (m : Int) ≤ (dcap : Int) := by omega
  have g2 : ¬ dcap = pos := by omega
  have g3 : (m : Int) ≤ (mc : Int) := by omega
  have g4 : (pos : Int) + (m : Int) ≤ 9223372036854775807 := by omega
  have g5 : ¬ pos = dcap := by omega
  have g6 : (pos : Int) ≤ (pos : Int) + (m : Int) := by omega
  have g7 : IntKind.i64.wrap ((pos : Int) + (m : Int)) = (pos : Int) + (m : Int) := by rw [IntKind.wrap_i64]; omega
  have g8 : ((pos : Int) + (m : Int)).toNat = pos + m := by omega
  have g9 : ¬ pos = pos + m := by omega
  have g10 : m ≤ mc := by omega
  have g11 : pos + m ≤ dcap := by omega
  have HH : Hid (len ≤ dcap ∧ pos + rest = len) := ⟨hlen, hlt⟩
  clear hc hf hr hp hd hdd hk2 hz
  go_enter Ybad.func29, Ybad.ntmps29
  go_wp2
  go_quiet (fail)
  rename_i q1
  go_wp2
  go_quiet (fail)
  rename_i q2
  go_wp2
  go_region_held_law (fun w' => w'.cell? ⟨rb, 0, none⟩ = some (.slice (some ⟨db, doff, none⟩) len dcap) ∧ w'.cell? ⟨rb, 1, none⟩ = some (.int .i64 pos)) (first | exact ⟨c0, c1⟩ | exact ⟨by assumption, by assumption⟩)
    (first | (refine step_copy_row rfl (.tmp 57) (.tmp 72) 22 22 rfl 5 Ybad.underlying22 (by kernel_rfl) pb po _ _ _ _ _ rfl rfl buf T (by exact HP.out) (taken zs pos m) (by first | (simp [taken_len hk1]; done) | (rw [taken_len hk1]; show _ = min _ _; omega)) (src_ok HD.out hk1) (by exact HK2.out) taken_one ?_; intro w9 hw9; have s0 := after_copy (by exact HR.out) (by exact HP.out) hne hw9; obtain ⟨s1, s2, s3, s4⟩ := s0))
  clear c0 c1 c2
  go_wp2
  go_ret2
  obtain ⟨y1, y2, y3⟩ := s4.out
  obtain ⟨z1, z2, z3⟩ := pos_set ((pos : Int) + (m : Int)) y1 y2 hne
  have y4 : But rb pb w w9 := ⟨y3.os, y3.tape, y3.output, y3.size, y3.block⟩
  exact ⟨ret_two rfl rfl, by rw [Int.natCast_add]; exact z1, z2, y4.trans z3⟩

set_option maxHeartbeats 1000000 in
theorem read_b2 (rb pb po m mc db doff len dcap pos rest : Nat) (st : Nat) (et : TypeId) (ex : Value) (buf : List Value) (T : TypeId) (zs : List Int) (w : World)
    (hr : w.heap[rb]? = some (.cells (rdCells (.slice (some ⟨db, doff, none⟩) len dcap) pos (st : Int) (.iface et ex)) 28 (0, 0))) (hp : w.heap[pb]? = some (.cells buf.toArray T (0, 0)))
    (hd : Data w db doff zs) (hz : zs.length = len) (hlen : len ≤ dcap) (hcap : dcap ≤ maxLen) (hm0 : 0 < m) (hm : m ≤ mc) (hmc : po + m ≤ buf.length) (hmx : mc ≤ maxLen) (hlt : pos + rest = len) (h0 : 0 < rest) (hne : rb ≠ pb) (hs0 : 0 < st) (hs : m ≤ st) (hk : rest < m) :
    Calls Ybad.prog 29 #[.pointer (some ⟨rb, 0, none⟩), .slice (some ⟨pb, po, none⟩) m mc] w fun e w' => e = .returned (.tuple #[.int .i64 (rest : Nat), .nilIface]) ∧
      w'.heap[rb]? = some (.cells (rdCells (.slice (some ⟨db, doff, none⟩) len dcap) ((pos + rest : Nat) : Int) (st : Int) (.iface et ex)) 28 (0, 0)) ∧ w'.heap[pb]? = some (.cells (splice buf po (taken zs pos rest)).toArray T (0, 0)) ∧ But rb pb w w' := by
  unfold maxLen at hcap hmx
  have hk1 : pos + rest ≤ zs.length := by omega
  have hk2 : po + (taken zs pos rest).length ≤ buf.length := by rw [taken_len hk1]; omega
  have hdd := hd
  obtain ⟨hc, hf⟩ := own_block hr
  have c0 : w.cell? ⟨rb, 0, none⟩ = some (.slice (some ⟨db, doff, none⟩) len dcap) := by rw [hc]; rfl
  have c1 : w.cell? ⟨rb, 1, none⟩ = some (.int .i64 pos) := by rw [hc]; rfl
  have c2 : w.cell? ⟨rb, 2, none⟩ = some (.int .i64 (st : Int)) := by rw [hc]; rfl
  have HR : Hid _ := hr
  have HP : Hid _ := hp
  have HD : Hid _ := hdd
  have HK2 : Hid _ := hk2
  have HZ : Hid _ := hz
  have g0 : (len : Int) - (pos : Int) = (rest : Int) := by omega
  have g0w : IntKind.i64.wrap ((len : Int) - (pos : Int)) = (rest : Int) := by rw [g0, IntKind.wrap_i64]; omega
  have g0d : decide ((len : Int) ≤ (pos : Int)) = false := by simp; omega
  have g0e : ¬ len ≤ pos := by omega
  have t1 : decide ((0 : Int) < (st : Int)) = true := by simp; omega
  have t1' : 0 < st := by omega
  have t2 : decide ((st : Int) < (m : Int)) = false := by simp; omega
  have t2' : ¬ st < m := by omega
  have t3 : decide ((rest : Int) < (m : Int)) = true := by simp; omega
  have t3' : rest < m := by omega

  have g1 : (pos : Int) + (rest : Int) ≤ (dcap : Int) := by omega
  have g2 : ¬ dcap = pos := by omega
  have g3 : (rest : Int) ≤ (mc : Int) := by omega
  have g4 : (pos : Int) + (rest : Int) ≤ 9223372036854775807 := by omega
  have g5 : ¬ pos = dcap := by omega
  have g6 : (pos : Int) ≤ (pos : Int) + (rest : Int) := by omega
  have g7 : IntKind.i64.wrap ((pos : Int) + (rest : Int)) = (pos : Int) + (rest : Int) := by rw [IntKind.wrap_i64]; omega
  have g8 : ((pos : Int) + (rest : Int)).toNat = pos + rest := by omega
  have g9 : ¬ pos = pos + rest := by omega
  have g10 : rest ≤ mc := by omega
  have g11 : pos + rest ≤ dcap := by omega
  have HH : Hid (len ≤ dcap ∧ pos + rest = len) := ⟨hlen, hlt⟩
  clear hc hf hr hp hd hdd hk2 hz
  go_enter Ybad.func29, Ybad.ntmps29
  go_wp2
  go_quiet (fail)
  rename_i q1
  go_wp2
  go_quiet (fail)
  rename_i q2
  go_wp2
  go_region_held_law (fun w' => w'.cell? ⟨rb, 0, none⟩ = some (.slice (some ⟨db, doff, none⟩) len dcap) ∧ w'.cell? ⟨rb, 1, none⟩ = some (.int .i64 pos)) (first | exact ⟨c0, c1⟩ | exact ⟨by assumption, by assumption⟩)
    (first | (refine step_copy_row rfl (.tmp 57) (.tmp 72) 22 22 rfl 5 Ybad.underlying22 (by kernel_rfl) pb po _ _ _ _ _ rfl rfl buf T (by exact HP.out) (taken zs pos rest) (by first | (simp [taken_len hk1]; done) | (rw [taken_len hk1]; show _ = min _ _; omega)) (src_ok HD.out hk1) (by exact HK2.out) taken_one ?_; intro w9 hw9; have s0 := after_copy (by exact HR.out) (by exact HP.out) hne hw9; obtain ⟨s1, s2, s3, s4⟩ := s0))
  clear c0 c1 c2
  go_wp2
  go_ret2
  obtain ⟨y1, y2, y3⟩ := s4.out
  obtain ⟨z1, z2, z3⟩ := pos_set ((pos : Int) + (rest : Int)) y1 y2 hne
  have y4 : But rb pb w w9 := ⟨y3.os, y3.tape, y3.output, y3.size, y3.block⟩
  exact ⟨ret_two rfl rfl, by rw [Int.natCast_add]; exact z1, z2, y4.trans z3⟩

set_option maxHeartbeats 1000000 in
theorem read_c1 (rb pb po m mc db doff len dcap pos rest : Nat) (st : Nat) (et : TypeId) (ex : Value) (buf : List Value) (T : TypeId) (zs : List Int) (w : World)
    (hr : w.heap[rb]? = some (.cells (rdCells (.slice (some ⟨db, doff, none⟩) len dcap) pos (st : Int) (.iface et ex)) 28 (0, 0))) (hp : w.heap[pb]? = some (.cells buf.toArray T (0, 0)))
    (hd : Data w db doff zs) (hz : zs.length = len) (hlen : len ≤ dcap) (hcap : dcap ≤ maxLen) (hm0 : 0 < m) (hm : m ≤ mc) (hmc : po + m ≤ buf.length) (hmx : mc ≤ maxLen) (hlt : pos + rest = len) (h0 : 0 < rest) (hne : rb ≠ pb) (hs0 : 0 < st) (hs : st < m) (hk : st ≤ rest) :
    Calls Ybad.prog 29 #[.pointer (some ⟨rb, 0, none⟩), .slice (some ⟨pb, po, none⟩) m mc] w fun e w' => e = .returned (.tuple #[.int .i64 (st : Nat), .nilIface]) ∧
      w'.heap[rb]? = some (.cells (rdCells (.slice (some ⟨db, doff, none⟩) len dcap) ((pos + st : Nat) : Int) (st : Int) (.iface et ex)) 28 (0, 0)) ∧ w'.heap[pb]? = some (.cells (splice buf po (taken zs pos st)).toArray T (0, 0)) ∧ But rb pb w w' := by
  unfold maxLen at hcap hmx
  have hk1 : pos + st ≤ zs.length := by omega
  have hk2 : po + (taken zs pos st).length ≤ buf.length := by rw [taken_len hk1]; omega
  have hdd := hd
  obtain ⟨hc, hf⟩ := own_block hr
  have c0 : w.cell? ⟨rb, 0, none⟩ = some (.slice (some ⟨db, doff, none⟩) len dcap) := by rw [hc]; rfl
  have c1 : w.cell? ⟨rb, 1, none⟩ = some (.int .i64 pos) := by rw [hc]; rfl
  have c2 : w.cell? ⟨rb, 2, none⟩ = some (.int .i64 (st : Int)) := by rw [hc]; rfl
  have HR : Hid _ := hr
  have HP : Hid _ := hp
  have HD : Hid _ := hdd
  have HK2 : Hid _ := hk2
  have HZ : Hid _ := hz
  have g0 : (len : Int) - (pos : Int) = (rest : Int) := by omega
  have g0w : IntKind.i64.wrap ((len : Int) - (pos : Int)) = (rest : Int) := by rw [g0, IntKind.wrap_i64]; omega
  have g0d : decide ((len : Int) ≤ (pos : Int)) = false := by simp; omega
  have g0e : ¬ len ≤ pos := by omega
  have t1 : decide ((0 : Int) < (st : Int)) = true := by simp; omega
  have t1' : 0 < st := by omega
  have t2 : decide ((st : Int) < (m : Int)) = true := by simp; omega
  have t2' : st < m := by omega
  have t3 : decide ((rest : Int) < (st : Int)) = false := by simp; omega
  have t3' : ¬ rest < st := by omega

  have g1 : (pos : Int) + (st : Int) ≤ (dcap : Int) := by omega
  have g2 : ¬ dcap = pos := by omega
  have g3 : (st : Int) ≤ (mc : Int) := by omega
  have g4 : (pos : Int) + (st : Int) ≤ 9223372036854775807 := by omega
  have g5 : ¬ pos = dcap := by omega
  have g6 : (pos : Int) ≤ (pos : Int) + (st : Int) := by omega
  have g7 : IntKind.i64.wrap ((pos : Int) + (st : Int)) = (pos : Int) + (st : Int) := by rw [IntKind.wrap_i64]; omega
  have g8 : ((pos : Int) + (st : Int)).toNat = pos + st := by omega
  have g9 : ¬ pos = pos + st := by omega
  have g10 : st ≤ mc := by omega
  have g11 : pos + st ≤ dcap := by omega
  have HH : Hid (len ≤ dcap ∧ pos + rest = len) := ⟨hlen, hlt⟩
  clear hc hf hr hp hd hdd hk2 hz
  go_enter Ybad.func29, Ybad.ntmps29
  go_wp2
  go_quiet (fail)
  rename_i q1
  go_wp2
  go_quiet (fail)
  rename_i q2
  go_wp2
  go_region_held_law (fun w' => w'.cell? ⟨rb, 0, none⟩ = some (.slice (some ⟨db, doff, none⟩) len dcap) ∧ w'.cell? ⟨rb, 1, none⟩ = some (.int .i64 pos)) (first | exact ⟨c0, c1⟩ | exact ⟨by assumption, by assumption⟩)
    (first | (refine step_copy_row rfl (.tmp 57) (.tmp 72) 22 22 rfl 5 Ybad.underlying22 (by kernel_rfl) pb po _ _ _ _ _ rfl rfl buf T (by exact HP.out) (taken zs pos st) (by first | (simp [taken_len hk1]; done) | (rw [taken_len hk1]; show _ = min _ _; omega)) (src_ok HD.out hk1) (by exact HK2.out) taken_one ?_; intro w9 hw9; have s0 := after_copy (by exact HR.out) (by exact HP.out) hne hw9; obtain ⟨s1, s2, s3, s4⟩ := s0))
  clear c0 c1 c2
  go_wp2
  go_ret2
  obtain ⟨y1, y2, y3⟩ := s4.out
  obtain ⟨z1, z2, z3⟩ := pos_set ((pos : Int) + (st : Int)) y1 y2 hne
  have y4 : But rb pb w w9 := ⟨y3.os, y3.tape, y3.output, y3.size, y3.block⟩
  exact ⟨ret_two rfl rfl, by rw [Int.natCast_add]; exact z1, z2, y4.trans z3⟩

set_option maxHeartbeats 1000000 in
theorem read_c2 (rb pb po m mc db doff len dcap pos rest : Nat) (st : Nat) (et : TypeId) (ex : Value) (buf : List Value) (T : TypeId) (zs : List Int) (w : World)
    (hr : w.heap[rb]? = some (.cells (rdCells (.slice (some ⟨db, doff, none⟩) len dcap) pos (st : Int) (.iface et ex)) 28 (0, 0))) (hp : w.heap[pb]? = some (.cells buf.toArray T (0, 0)))
    (hd : Data w db doff zs) (hz : zs.length = len) (hlen : len ≤ dcap) (hcap : dcap ≤ maxLen) (hm0 : 0 < m) (hm : m ≤ mc) (hmc : po + m ≤ buf.length) (hmx : mc ≤ maxLen) (hlt : pos + rest = len) (h0 : 0 < rest) (hne : rb ≠ pb) (hs0 : 0 < st) (hs : st < m) (hk : rest < st) :
    Calls Ybad.prog 29 #[.pointer (some ⟨rb, 0, none⟩), .slice (some ⟨pb, po, none⟩) m mc] w fun e w' => e = .returned (.tuple #[.int .i64 (rest : Nat), .nilIface]) ∧
      w'.heap[rb]? = some (.cells (rdCells (.slice (some ⟨db, doff, none⟩) len dcap) ((pos + rest : Nat) : Int) (st : Int) (.iface et ex)) 28 (0, 0)) ∧ w'.heap[pb]? = some (.cells (splice buf po (taken zs pos rest)).toArray T (0, 0)) ∧ But rb pb w w' := by
  unfold maxLen at hcap hmx
  have hk1 : pos + rest ≤ zs.length := by omega
  have hk2 : po + (taken zs pos rest).length ≤ buf.length := by rw [taken_len hk1]; omega
  have hdd := hd
  obtain ⟨hc, hf⟩ := own_block hr
  have c0 : w.cell? ⟨rb, 0, none⟩ = some (.slice (some ⟨db, doff, none⟩) len dcap) := by rw [hc]; rfl
  have c1 : w.cell? ⟨rb, 1, none⟩ = some (.int .i64 pos) := by rw [hc]; rfl
  have c2 : w.cell? ⟨rb, 2, none⟩ = some (.int .i64 (st : Int)) := by rw [hc]; rfl
  have HR : Hid _ := hr
  have HP : Hid _ := hp
  have HD : Hid _ := hdd
  have HK2 : Hid _ := hk2
  have HZ : Hid _ := hz
  have g0 : (len : Int) - (pos : Int) = (rest : Int) := by omega
  have g0w : IntKind.i64.wrap ((len : Int) - (pos : Int)) = (rest : Int) := by rw [g0, IntKind.wrap_i64]; omega
  have g0d : decide ((len : Int) ≤ (pos : Int)) = false := by simp; omega
  have g0e : ¬ len ≤ pos := by omega
  have t1 : decide ((0 : Int) < (st : Int)) = true := by simp; omega
  have t1' : 0 < st := by omega
  have t2 : decide ((st : Int) < (m : Int)) = true := by simp; omega
  have t2' : st < m := by omega
  have t3 : decide ((rest : Int) < (st : Int)) = true := by simp; omega
  have t3' : rest < st := by omega

  have g1 : (pos : Int) + (rest : Int) ≤ (dcap : Int) := by omega
  have g2 : ¬ dcap = pos := by omega
  have g3 : (rest : Int) ≤ (mc : Int) := by omega
  have g4 : (pos : Int) + (rest : Int) ≤ 9223372036854775807 := by omega
  have g5 : ¬ pos = dcap := by omega
  have g6 : (pos : Int) ≤ (pos : Int) + (rest : Int) := by omega
  have g7 : IntKind.i64.wrap ((pos : Int) + (rest : Int)) = (pos : Int) + (rest : Int) := by rw [IntKind.wrap_i64]; omega
  have g8 : ((pos : Int) + (rest : Int)).toNat = pos + rest := by omega
  have g9 : ¬ pos = pos + rest := by omega
  have g10 : rest ≤ mc := by omega
  have g11 : pos + rest ≤ dcap := by omega
  have HH : Hid (len ≤ dcap ∧ pos + rest = len) := ⟨hlen, hlt⟩
  clear hc hf hr hp hd hdd hk2 hz
  go_enter Ybad.func29, Ybad.ntmps29
  go_wp2
  go_quiet (fail)
  rename_i q1
  go_wp2
  go_quiet (fail)
  rename_i q2
  go_wp2
  go_region_held_law (fun w' => w'.cell? ⟨rb, 0, none⟩ = some (.slice (some ⟨db, doff, none⟩) len dcap) ∧ w'.cell? ⟨rb, 1, none⟩ = some (.int .i64 pos)) (first | exact ⟨c0, c1⟩ | exact ⟨by assumption, by assumption⟩)
    (first | (refine step_copy_row rfl (.tmp 57) (.tmp 72) 22 22 rfl 5 Ybad.underlying22 (by kernel_rfl) pb po _ _ _ _ _ rfl rfl buf T (by exact HP.out) (taken zs pos rest) (by first | (simp [taken_len hk1]; done) | (rw [taken_len hk1]; show _ = min _ _; omega)) (src_ok HD.out hk1) (by exact HK2.out) taken_one ?_; intro w9 hw9; have s0 := after_copy (by exact HR.out) (by exact HP.out) hne hw9; obtain ⟨s1, s2, s3, s4⟩ := s0))
  clear c0 c1 c2
  go_wp2
  go_ret2
  obtain ⟨y1, y2, y3⟩ := s4.out
  obtain ⟨z1, z2, z3⟩ := pos_set ((pos : Int) + (rest : Int)) y1 y2 hne
  have y4 : But rb pb w w9 := ⟨y3.os, y3.tape, y3.output, y3.size, y3.block⟩
  exact ⟨ret_two rfl rfl, by rw [Int.natCast_add]; exact z1, z2, y4.trans z3⟩


/-- A read of some bytes: at least one, at most the buffer's length, as the step says. -/
theorem read_some (rb pb po m mc db doff len dcap pos rest : Nat) (step : Int) (et : TypeId) (ex : Value) (buf : List Value) (T : TypeId) (zs : List Int) (w : World)
    (hr : w.heap[rb]? = some (.cells (rdCells (.slice (some ⟨db, doff, none⟩) len dcap) pos step (.iface et ex)) 28 (0, 0))) (hp : w.heap[pb]? = some (.cells buf.toArray T (0, 0)))
    (hd : Data w db doff zs) (hz : zs.length = len) (hlen : len ≤ dcap) (hcap : dcap ≤ maxLen) (hm0 : 0 < m) (hm : m ≤ mc) (hmc : po + m ≤ buf.length) (hmx : mc ≤ maxLen) (hlt : pos + rest = len) (h0 : 0 < rest) (hne : rb ≠ pb) :
    Calls Ybad.prog 29 #[.pointer (some ⟨rb, 0, none⟩), .slice (some ⟨pb, po, none⟩) m mc] w fun e w' => ∃ k : Nat, 0 < k ∧ k ≤ m ∧ k ≤ rest ∧ e = .returned (.tuple #[.int .i64 (k : Nat), .nilIface]) ∧
      w'.heap[rb]? = some (.cells (rdCells (.slice (some ⟨db, doff, none⟩) len dcap) ((pos + k : Nat) : Int) step (.iface et ex)) 28 (0, 0)) ∧ w'.heap[pb]? = some (.cells (splice buf po (taken zs pos k)).toArray T (0, 0)) ∧ But rb pb w w' := by
  rcases Int.lt_or_le 0 step with h | h
  · obtain ⟨st, rfl⟩ : ∃ st : Nat, step = st := ⟨step.toNat, by omega⟩
    rcases Nat.lt_or_ge st m with h2 | h2
    · rcases Nat.lt_or_ge rest st with h3 | h3
      · exact (read_c2 rb pb po m mc db doff len dcap pos rest st et ex buf T zs w hr hp hd hz hlen hcap hm0 hm hmc hmx hlt h0 hne (by omega) h2 h3).mono fun _ _ h => ⟨rest, by omega, by omega, by omega, h⟩
      · exact (read_c1 rb pb po m mc db doff len dcap pos rest st et ex buf T zs w hr hp hd hz hlen hcap hm0 hm hmc hmx hlt h0 hne (by omega) h2 h3).mono fun _ _ h => ⟨st, by omega, by omega, by omega, h⟩
    · rcases Nat.lt_or_ge rest m with h3 | h3
      · exact (read_b2 rb pb po m mc db doff len dcap pos rest st et ex buf T zs w hr hp hd hz hlen hcap hm0 hm hmc hmx hlt h0 hne (by omega) h2 h3).mono fun _ _ h => ⟨rest, by omega, by omega, by omega, h⟩
      · exact (read_b1 rb pb po m mc db doff len dcap pos rest st et ex buf T zs w hr hp hd hz hlen hcap hm0 hm hmc hmx hlt h0 hne (by omega) h2 h3).mono fun _ _ h => ⟨m, by omega, by omega, by omega, h⟩
  · rcases Nat.lt_or_ge rest m with h3 | h3
    · exact (read_a2 rb pb po m mc db doff len dcap pos rest step et ex buf T zs w hr hp hd hz hlen hcap hm0 hm hmc hmx hlt h0 hne h h3).mono fun _ _ h => ⟨rest, by omega, by omega, by omega, h⟩
    · exact (read_a1 rb pb po m mc db doff len dcap pos rest step et ex buf T zs w hr hp hd hz hlen hcap hm0 hm hmc hmx hlt h0 hne h h3).mono fun _ _ h => ⟨m, by omega, by omega, by omega, h⟩

end Go.Proofs.YbulkcjvoDoor

/-
  io.ReadFull, 'unexpected' and readBody, where too little is left to read.
-/
import Derived.Test.YbulkcjvoDoorNum
import Derived.LaidEql
namespace Go.Proofs.YbulkcjvoDoor
open Go.RowKit
set_option linter.unusedVariables false

abbrev errV (a : Addr) : Value := .iface 36 (.pointer (some a))

/-- The errors: io.EOF, io.ErrUnexpectedEOF, the reader's own at its end, and what that one is turned into where something was read. All lie below the reader. -/
structure Errs (a0 a1 ae au : Addr) (rb : Nat) (W : World) : Prop where
  c0 : W.cell? ⟨0, 0, none⟩ = some (errV a0)
  c1 : W.cell? ⟨1, 0, none⟩ = some (errV a1)
  k0 : ∃ c t, W.heap[a0.block]? = some (.cells c t (0, 0))
  ke : ∃ c t, W.heap[ae.block]? = some (.cells c t (0, 0))
  ku : ∃ c t, W.heap[au.block]? = some (.cells c t (0, 0))
  turn : (ae = a0 ∧ au = a1) ∨ (ae ≠ a0 ∧ au = ae)
  ne : au ≠ a0
  b0 : a0.block < rb
  be : ae.block < rb
  bu : au.block < rb
  b1 : 1 < rb
  sz : rb ≤ W.heap.size

theorem Errs.but {a0 a1 ae au : Addr} {rb pb : Nat} {W W' : World} (h : Errs a0 a1 ae au rb W) (hb : But rb pb W W') (hp : rb ≤ pb) : Errs a0 a1 ae au rb W' := by
  have keep : ∀ k, k < rb → W'.heap[k]? = W.heap[k]? := fun k hk => hb.block k (Nat.lt_of_lt_of_le hk h.sz) (by omega) (by omega)
  have b1 := h.b1
  refine ⟨?_, ?_, ?_, ?_, ?_, h.turn, h.ne, h.b0, h.be, h.bu, h.b1, Nat.le_trans h.sz hb.size⟩
  · rw [World.cell?_of_block (w := W) (keep 0 (by omega))]; exact h.c0
  · rw [World.cell?_of_block (w := W) (keep 1 (by omega))]; exact h.c1
  · rw [keep _ h.b0]; exact h.k0
  · rw [keep _ h.be]; exact h.ke
  · rw [keep _ h.bu]; exact h.ku

theorem but_below {rb : Nat} {X W : World} (h : Below X.heap.size X W) : But rb rb X W := ⟨h.os, h.tape, h.output, h.size, fun k hk _ _ => h.block k hk⟩
theorem Errs.below {a0 a1 ae au : Addr} {rb : Nat} {W W' : World} (h : Errs a0 a1 ae au rb W) (hb : Below W.heap.size W W') : Errs a0 a1 ae au rb W' := h.but (but_below hb) (Nat.le_refl _)

theorem info36 : ∃ i, Ybad.prog.info? 36 = some i ∧ i.comparable = true := by
  have h : (Ybad.prog.info? 36).map (·.comparable) = some true := by kernel_rfl
  obtain ⟨i, hi, hz⟩ := Option.map_eq_some_iff.1 h
  exact ⟨i, hi, hz⟩
theorem info38 : ∃ i, Ybad.prog.info? 38 = some i ∧ i.size ≠ 0 := by
  have h : (Ybad.prog.info? 38).map (·.size) = some 1 := by kernel_rfl
  obtain ⟨i, hi, hz⟩ := Option.map_eq_some_iff.1 h
  exact ⟨i, hi, by rw [hz]; decide⟩

theorem eql_same (a : Addr) (W : World) : (binOp .eql 24 (errV a) (errV a)).run Ybad.prog W = .ok (.bool true) W := by
  obtain ⟨i, hi, hc⟩ := info36
  obtain ⟨j, hj, _⟩ := info38
  exact run_eql_iface_ptr_same W a Ybad.underlying24 Ybad.underlying36 hi hc hj
theorem eql_other {a b : Addr} {W : World} (hne : a ≠ b) (ha : ∃ c t, W.heap[a.block]? = some (.cells c t (0, 0))) (hb : ∃ c t, W.heap[b.block]? = some (.cells c t (0, 0))) : (binOp .eql 24 (errV a) (errV b)).run Ybad.prog W = .ok (.bool false) W := by
  obtain ⟨i, hi, hc⟩ := info36
  obtain ⟨j, hj, hs⟩ := info38
  obtain ⟨_, _, h1⟩ := ha
  obtain ⟨_, _, h2⟩ := hb
  exact run_eql_iface_ptr_other W Ybad.underlying24 Ybad.underlying36 hi hc hj hs hne h1 h2

theorem unexp_e {a0 a1 ae au : Addr} {rb : Nat} {w : World} (h : Errs a0 a1 ae au rb w) : Calls Ybad.prog 9 #[errV ae] w fun e w' => e = .returned (errV au) ∧ w' = w := by
  have c0 := h.c0
  have c1 := h.c1
  rcases h.turn with ⟨rfl, rfl⟩ | ⟨hne, rfl⟩
  · have q := eql_same ae w
    clear h
    go_enter Ybad.func9, Ybad.ntmps9
    go_wp2
    go_ret
    exact ⟨rfl, rfl⟩
  · have q := eql_other hne h.ke h.k0
    clear h
    go_enter Ybad.func9, Ybad.ntmps9
    go_wp2
    go_ret
    exact ⟨rfl, rfl⟩
theorem unexp_u {a0 a1 ae au : Addr} {rb : Nat} {w : World} (h : Errs a0 a1 ae au rb w) : Calls Ybad.prog 9 #[errV au] w fun e w' => e = .returned (errV au) ∧ w' = w := by
  have c0 := h.c0
  have q := eql_other h.ne h.ku h.k0
  clear h
  go_enter Ybad.func9, Ybad.ntmps9
  go_wp2
  go_ret
  exact ⟨rfl, rfl⟩

def nilM (v : Value) : Nat := match v with | .nilIface => 1 | _ => 0

set_option maxHeartbeats 1000000 in
/-- Nothing is left: nothing is read, and the reader's own error. -/
theorem atLeast_end (rb m mc pb po : Nat) (da : Option Addr) (len dcap : Nat) (pos step : Int) (ae : Addr) (w : World)
    (hr : w.heap[rb]? = some (.cells (rdCells (.slice da len dcap) pos step (errV ae)) 28 (0, 0))) (he : (len : Int) ≤ pos) (hm0 : 0 < m) (hm : m ≤ mc) (hmx : mc ≤ maxLen) :
    Calls Ybad.prog 13 #[.iface 26 (.pointer (some ⟨rb, 0, none⟩)), .slice (some ⟨pb, po, none⟩) m mc, .int .i64 m] w fun e w' => e = .returned (.tuple #[.int .i64 0, errV ae]) ∧ ∃ q, w' = w.drewN q := by
  have HR : Hid _ := hr
  unfold maxLen at hmx
  have t0 : decide ((0 : Int) < (m : Int)) = true := by simp; omega
  have t1 : decide ((m : Int) ≤ 0) = false := by simp; omega
  have t2 : ¬ mc = 0 := by omega
  have t3 : ¬ 0 = mc := by omega
  have na := fun W => ahead_read W ⟨rb, 0, none⟩
  have nm := fun W => method_read W ⟨rb, 0, none⟩
  clear hr
  go_enter Ybad.func13, Ybad.ntmps13
  go_wp2
  go_loopw [6, 7, 8] (fun n er _ wr => n = .int .i64 0 ∧ (er = .nilIface ∨ er = errV ae) ∧ ∃ q, wr = w.drewN q) (fun _ er _ _ => nilM er)
  case atStart => exact ⟨rfl, .inl rfl, 0, rfl⟩
  case round =>
    obtain ⟨rfl, her, q, hwr⟩ := hrel
    rcases her with rfl | rfl
    · have CA : Hid _ := read_end rb da len dcap pos step 36 (.pointer (some ae)) (.slice (some ⟨pb, po, none⟩) m mc) wr.drew (by rw [hwr]; exact HR.out) he
      have HW : Hid _ := hwr
      clear hwr
      go_wp2
      go_region_held3 (fun w' => wr.heap.size ≤ w'.heap.size) (first | exact Nat.le_refl _ | exact Nat.le_of_eq (by rw [hx9]; rfl))
        (first
          | (go_at_call 29; refine Calls.mono CA.out ?_; rintro e w9 ⟨rfl, q9, hx9⟩))
      go_wp2
      go_roundw
      case rel => exact ⟨rfl, .inr rfl, q + (1 + q9), by rw [HW.out, World.drewN_drewN]⟩
      case measure => simp [nilM]
    · go_wp2
      go_ret2
      exact ⟨rfl, q, by first | rfl | exact hwr⟩

set_option maxHeartbeats 1000000 in
/-- Less is left than was asked for: all of it is read, and the error. -/
theorem atLeast_short (rb pb po m mc db doff len dcap pos rest : Nat) (step : Int) (a0 a1 ae au : Addr) (buf : List Value) (T : TypeId) (zs : List Int) (w : World)
    (hr : Reader rb db doff len dcap pos step 36 (.pointer (some ae)) zs w) (hE : Errs a0 a1 ae au rb w) (hp : w.heap[pb]? = some (.cells buf.toArray T (0, 0)))
    (hm : m ≤ mc) (hmc : po + mc ≤ buf.length) (hmx : mc ≤ maxLen) (hlt : pos + rest = len) (h0 : 0 < rest) (hrm : rest < m) (hrp : rb < pb) (hn2 : db ≠ pb) :
    Calls Ybad.prog 13 #[.iface 26 (.pointer (some ⟨rb, 0, none⟩)), .slice (some ⟨pb, po, none⟩) m mc, .int .i64 m] w fun e w' => e = .returned (.tuple #[.int .i64 (rest : Nat), errV au]) ∧
      Reader rb db doff len dcap len step 36 (.pointer (some ae)) zs w' ∧ But rb pb w w' := by
  have hne : rb ≠ pb := Nat.ne_of_lt hrp
  have HR : Hid _ := hr
  have HE : Hid _ := hE
  have HP : Hid _ := hp
  have HM : Hid (mc ≤ maxLen) := hmx
  have hz := hr.lenEq
  unfold maxLen at hmx
  have na := fun W => ahead_read W ⟨rb, 0, none⟩
  have nm := fun W => method_read W ⟨rb, 0, none⟩
  clear hr hp hE
  go_enter Ybad.func13, Ybad.ntmps13
  go_wp2
  go_loopw [6, 7, 8] (fun n er _ wr => ∃ k : Nat, k ≤ rest ∧ n = .int .i64 k ∧ (er = .nilIface ∨ (er = errV ae ∧ k = rest)) ∧ Hid (wr.heap[rb]? = some (.cells (rdCells (.slice (some ⟨db, doff, none⟩) len dcap) ((pos + k : Nat) : Int) step (errV ae)) 28 (0, 0))) ∧ Hid (wr.heap[pb]? = some (.cells (splice buf po (taken zs pos k)).toArray T (0, 0))) ∧ But rb pb w wr) (fun n er _ _ => 2 * (rest - (intOf n).toNat) + nilM er)
  case atStart => exact ⟨0, Nat.zero_le _, rfl, .inl rfl, by rw [Nat.add_zero]; exact HR.out.box, by rw [taken_zero, splice_nil]; exact HP.out, But.refl _ _ _⟩
  case round =>
    obtain ⟨k, hk, rfl, her, q1, q2, q3⟩ := hrel
    have t1 : decide ((k : Int) < (m : Int)) = true := by simp; omega
    have t2 : ¬ mc = k := by omega
    have t3 : (k : Int) ≤ (m : Int) := by omega
    have t4 : ¬ k = mc := by omega
    have t5 : decide ((m : Int) ≤ (k : Int)) = false := by simp; omega
    rcases her with rfl | ⟨rfl, rfl⟩
    · rcases Nat.lt_or_ge k rest with hlk | hge
      · have sl : (splice buf po (taken zs pos k)).length = buf.length := len_splice_taken (by omega) (show po + m ≤ buf.length by omega) (by omega)
        have ca := read_some rb pb (po + k) (m - k) (mc - k) db doff len dcap (pos + k) (len - (pos + k)) step 36 (.pointer (some ae)) (splice buf po (taken zs pos k)) T zs wr.drew q1.out q2.out (q3.data HR.out.data HR.out.ne hn2) hz HR.out.le HR.out.cap (by omega) (by omega) (by rw [sl]; omega) (by have := HM.out; omega) (by omega) (by omega) hne
        have CA : Hid _ := ca
        clear ca
        go_wp2
        go_region_held3 (fun w' => wr.heap.size ≤ w'.heap.size) (first | exact Nat.le_refl _ | exact x3.size)
          (first
            | (go_at_call 29; refine Calls.mono CA.out ?_; rintro e w9 ⟨j, j0, j1, j2, rfl, x1, x2, x3⟩; have X1 : Hid _ := x1; have X2 : Hid _ := x2; clear x1 x2))
        go_wp2
        go_roundw
        case rel =>
          refine ⟨k + j, by omega, by go_num, .inl rfl, ?_, ?_, ?_⟩
          · rw [← Nat.add_assoc]; exact X1.out
          · have := X2.out
            rw [splice_more (taken_len (by omega)) (by omega), taken_add] at this
            exact this
          · exact q3.trans ⟨x3.os, x3.tape, x3.output, x3.size, x3.block⟩
        case measure => simp [intOf, nilM]; omega
      · obtain rfl : k = rest := by omega
        have CA : Hid _ := read_end rb (some ⟨db, doff, none⟩) len dcap ((pos + k : Nat) : Int) step 36 (.pointer (some ae)) (.slice (some ⟨pb, po + k, none⟩) (m - k) (mc - k)) wr.drew q1.out (by omega)
        go_wp2
        go_region_held3 (fun w' => wr.heap.size ≤ w'.heap.size) (first | exact Nat.le_refl _ | exact Nat.le_of_eq (by rw [hx9]; rfl))
          (first
            | (go_at_call 29; refine Calls.mono CA.out ?_; rintro e w9 ⟨rfl, q9, hx9⟩))
        go_wp2
        go_roundw
        case rel => exact ⟨k, by omega, by go_num, .inr ⟨rfl, rfl⟩, by exact q1.out, by exact q2.out, ⟨q3.os, q3.tape, q3.output, q3.size, q3.block⟩⟩
        case measure => simp [intOf, nilM]
    · have hE := HE.out.but q3 (Nat.le_of_lt hrp)
      have c0 := hE.c0
      have c1 := hE.c1
      have hfin : Reader rb db doff len dcap len step 36 (.pointer (some ae)) zs wr := HR.out.moved (by have := q1.out; rw [hlt] at this; exact this) q3 hn2
      have HF : Hid _ := hfin
      have t6 : decide ((0 : Int) < (k : Int)) = true := by simp; omega
      clear hfin
      rcases hE.turn with ⟨e1, e2⟩ | ⟨e1, e2⟩
      · subst e1
        subst e2
        have qq := eql_same ae wr
        clear hE
        go_wp2
        go_ret2
        exact ⟨rfl, HF.out, q3⟩
      · have qq := eql_other e1 hE.ke hE.k0
        clear hE
        subst e2
        go_wp2
        go_ret2
        exact ⟨rfl, HF.out, q3⟩

end Go.Proofs.YbulkcjvoDoor

/-
  ReadNumbered, where enough is left to read.
-/
import Derived.Test.YbulkcjvoDoorBody
import Derived.Test.YbulkcjvoDoorShelf
namespace Go.Proofs.YbulkcjvoDoor
open Go.RowKit
set_option linter.unusedVariables false

theorem hdr_row {L : List Value} {zs : List Int} (hL : L.length = 6) (h : 6 ≤ zs.length) : splice (splice L 0 (taken zs 0 2)) 2 (taken zs 2 4) = taken zs 0 6 := by
  have e := splice_more (L := L) (A := taken zs 0 2) (B := taken zs 2 4) (off := 0) (k := 2) (taken_len (by omega)) (by omega)
  rw [Nat.zero_add] at e
  rw [e]
  have e2 : taken zs 0 2 ++ taken zs 2 4 = taken zs 0 6 := by
    have := taken_add (zs := zs) (pos := 0) (k := 2) (j := 4)
    simpa using this
  rw [e2]
  have hl : (taken zs 0 6).length = 6 := taken_len (by omega)
  simp [splice, hl, List.drop_eq_nil_of_le (show L.length ≤ 6 by omega)]

theorem hdr_cell {zs : List Int} {W : World} {g j : Nat} {T : TypeId} (h : W.heap[g]? = some (.cells (taken zs 0 6).toArray T (0, 0))) (h6 : 6 ≤ zs.length) (hj : j < 6) : W.cell? ⟨g, j, none⟩ = some (.int .u8 (zs.getD j 0)) := by
  rw [(own_block h).1 j]
  have := taken_at (zs := zs) (pos := 0) (k := 6) (j := j) (by omega) hj
  simpa using this

/-- What stands while the last regions run: the header, and nothing of what was there turned but the reader. -/
abbrev NumS (rb g : Nat) (zs : List Int) (w0 w' : World) : Prop := w'.heap[g]? = some (.cells (taken zs 0 6).toArray 41 (0, 0)) ∧ But rb rb w0 w'
theorem numS_below {rb g : Nat} {zs : List Int} {w0 X w' : World} (h : NumS rb g zs w0 X) (hb : Below X.heap.size X w') : NumS rb g zs w0 w' :=
  ⟨by rw [hb.block g (lt_of_get h.1)]; exact h.1, h.2.trans ⟨hb.os, hb.tape, hb.output, hb.size, fun k hk _ _ => hb.block k hk⟩⟩
theorem numS_but {rb g : Nat} {zs : List Int} {w0 X w' : World} (h : NumS rb g zs w0 X) (hg : g ≠ rb) (hb : But rb rb X w') : NumS rb g zs w0 w' :=
  ⟨by rw [hb.block g (lt_of_get h.1) hg hg]; exact h.1, h.2.trans hb⟩

theorem Reader.below {rb db doff len dcap pos : Nat} {step : Int} {et : TypeId} {ex : Value} {zs : List Int} {w w' : World} (h : Reader rb db doff len dcap pos step et ex zs w) (hb : Below w.heap.size w w') : Reader rb db doff len dcap pos step et ex zs w' :=
  ⟨by rw [hb.block rb (lt_of_get h.box)]; exact h.box, fun j hj => by
    have := h.data j hj
    rw [World.cell?_of_block (w := w) (hb.block _ (World.block_lt_of_cell? w _ this))]; exact this, h.lenEq, h.le, h.cap, h.ne⟩

/-- What was read: nil if nothing was to be read, else a slice of the call's own. -/
def BodyIs (B n pos : Nat) (zs : List Int) (v : Value) (w' : World) : Prop :=
  (n = 0 ∧ v = .slice none 0 0) ∨ (0 < n ∧ ∃ g, B ≤ g ∧ v = .slice (some ⟨g, 0, none⟩) n n ∧ w'.heap[g]? = some (.cells (taken zs pos n).toArray 5 (0, 0)))

theorem BodyIs.below {B n pos : Nat} {zs : List Int} {v : Value} {w w' : World} (h : BodyIs B n pos zs v w) (hb : Below w.heap.size w w') : BodyIs B n pos zs v w' := by
  rcases h with h | ⟨h0, g, h1, h2, h3⟩
  · exact .inl h
  · exact .inr ⟨h0, g, h1, h2, by rw [hb.block g (lt_of_get h3)]; exact h3⟩
theorem BodyIs.mono {B B' n pos : Nat} {zs : List Int} {v : Value} {w : World} (h : BodyIs B n pos zs v w) (hb : B' ≤ B) : BodyIs B' n pos zs v w := by
  rcases h with h | ⟨h0, g, h1, h2, h3⟩
  · exact .inl h
  · exact .inr ⟨h0, g, Nat.le_trans hb h1, h2, h3⟩

theorem readBody_any (rb n db doff len dcap pos : Nat) (step : Int) (et : TypeId) (ex : Value) (zs : List Int) (w : World)
    (hr : Reader rb db doff len dcap pos step et ex zs w) (hn : n ≤ 65535) (hlt : pos + n ≤ len) :
    Calls Ybad.prog 10 #[.iface 26 (.pointer (some ⟨rb, 0, none⟩)), .int .u16 n] w fun e w' => ∃ v, e = .returned (.tuple #[v, .nilIface]) ∧
      Reader rb db doff len dcap (pos + n) step et ex zs w' ∧ BodyIs w.heap.size n pos zs v w' ∧ But rb rb w w' := by
  rcases Nat.eq_zero_or_pos n with h0 | h0
  · subst h0
    refine (readBody_zero _ w).mono ?_
    rintro e w' ⟨rfl, hw⟩
    obtain rfl := hw.symm
    exact ⟨_, rfl, hr, .inl ⟨rfl, rfl⟩, But.refl _ _ _⟩
  · refine (readBody_full rb n db doff len dcap pos step et ex zs w hr h0 hn hlt).mono ?_
    rintro e w' ⟨rfl, h1, h2, h3⟩
    exact ⟨_, rfl, h1, .inr ⟨h0, _, Nat.le_refl _, rfl, h2⟩, h3⟩

theorem but_two {rb g : Nat} {w w1 w2 : World} {o : Obj} (h1 : But rb w.heap.size (w.alloc o) w1) (h2 : But rb w.heap.size w1 w2) : But rb rb w w2 := (h1.trans h2).of_alloc

theorem wf_byte {z : Int} (h : 0 ≤ z ∧ z < 256) : (Lit.int .u8 z).wf = true := by
  have : IntKind.u8.min = 0 := by decide
  have : IntKind.u8.max = 255 := by decide
  simp [Lit.wf]; omega

theorem u16_hdr {W : World} {g n : Nat} {zs : List Int} {T : TypeId} (h : W.heap[g]? = some (.cells (taken zs 0 6).toArray T (0, 0))) (h6 : 6 ≤ zs.length) (hb : ∀ i, i < 6 → 0 ≤ zs.getD i 0 ∧ zs.getD i 0 < 256) (hbe : Lib.beZ [zs.getD 0 0, zs.getD 1 0] = n) :
    Calls Ybad.prog 11 #[.agg #[], .slice (some ⟨g, 0, none⟩) 2 6] W fun e w' => e = .returned (.int .u16 n) ∧ Below W.heap.size W w' := by
  have := Ybad.binary_BE_Uint16_z ⟨g, 0, none⟩ 2 6 [zs.getD 0 0, zs.getD 1 0] W (by decide) (by simp) (fun i hi => by
    rw [Addr.add_lit, Nat.zero_add, hdr_cell h h6 (by simp at hi; omega)]
    match i, hi with
    | 0, _ => rfl
    | 1, _ => rfl) (fun z hz => by
    simp only [List.mem_cons, List.not_mem_nil, or_false] at hz
    rcases hz with rfl | rfl
    · exact wf_byte (hb 0 (by decide))
    · exact wf_byte (hb 1 (by decide)))
  rw [show List.take 2 [zs.getD 0 0, zs.getD 1 0] = [zs.getD 0 0, zs.getD 1 0] from rfl, hbe] at this
  exact this

theorem u32_hdr {W : World} {g : Nat} {num : Int} {zs : List Int} {T : TypeId} (h : W.heap[g]? = some (.cells (taken zs 0 6).toArray T (0, 0))) (h6 : 6 ≤ zs.length) (hb : ∀ i, i < 6 → 0 ≤ zs.getD i 0 ∧ zs.getD i 0 < 256) (hbe : Lib.beZ [zs.getD 2 0, zs.getD 3 0, zs.getD 4 0, zs.getD 5 0] = num) :
    Calls Ybad.prog 12 #[.agg #[], .slice (some ⟨g, 2, none⟩) 4 4] W fun e w' => e = .returned (.int .u32 num) ∧ Below W.heap.size W w' := by
  have := Ybad.binary_BE_Uint32_z ⟨g, 2, none⟩ 4 4 [zs.getD 2 0, zs.getD 3 0, zs.getD 4 0, zs.getD 5 0] W (by decide) (by simp) (fun i hi => by
    rw [Addr.add_lit, hdr_cell h h6 (by simp at hi; omega)]
    match i, hi with
    | 0, _ => rfl
    | 1, _ => rfl
    | 2, _ => rfl
    | 3, _ => rfl) (fun z hz => by
    simp only [List.mem_cons, List.not_mem_nil, or_false] at hz
    rcases hz with rfl | rfl | rfl | rfl
    · exact wf_byte (hb 2 (by decide))
    · exact wf_byte (hb 3 (by decide))
    · exact wf_byte (hb 4 (by decide))
    · exact wf_byte (hb 5 (by decide)))
  rw [show List.take 4 [zs.getD 2 0, zs.getD 3 0, zs.getD 4 0, zs.getD 5 0] = [zs.getD 2 0, zs.getD 3 0, zs.getD 4 0, zs.getD 5 0] from rfl, hbe] at this
  exact this

theorem numS_drew {rb g : Nat} {zs : List Int} {w0 X : World} (h : NumS rb g zs w0 X) : NumS rb g zs w0 X.drew := ⟨h.1, ⟨h.2.os, h.2.tape, h.2.output, h.2.size, h.2.block⟩⟩

set_option maxHeartbeats 1000000 in
theorem num_full (rb n db doff len dcap : Nat) (step : Int) (et : TypeId) (ex : Value) (zs : List Int) (w : World)
    (hr : Reader rb db doff len dcap 0 step et ex zs w) (hn : n ≤ 65535) (hlt : 6 + n ≤ len) (hb : ∀ i, i < 6 → 0 ≤ zs.getD i 0 ∧ zs.getD i 0 < 256) (hbe : Lib.beZ [zs.getD 0 0, zs.getD 1 0] = n) (num : Int) (hnum : Lib.beZ [zs.getD 2 0, zs.getD 3 0, zs.getD 4 0, zs.getD 5 0] = num) :
    Calls Ybad.prog 6 #[.iface 26 (.pointer (some ⟨rb, 0, none⟩))] w fun e w' => ∃ v, e = .returned (.tuple #[.int .u32 num, v, .nilIface]) ∧
      Reader rb db doff len dcap (6 + n) step et ex zs w' ∧ BodyIs w.heap.size n 6 zs v w' ∧ But rb rb w w' := by
  have h6 : 6 ≤ zs.length := by rw [hr.lenEq]; omega
  have hne : rb ≠ w.heap.size := Nat.ne_of_lt (lt_of_get hr.box)
  have hn2 : db ≠ w.heap.size := Nat.ne_of_lt (hr.db_lt (by omega))
  have HR : Hid _ := hr
  have HB : Hid _ := hb
  have HE : Hid _ := hbe
  have HN : Hid _ := hnum
  clear hr hb hbe hnum
  go_enter Ybad.func6, Ybad.ntmps6
  go_wp2_with fail
  have ca := readFull_full rb w.heap.size 0 2 6 db doff len dcap 0 step et ex [.int .u8 0, .int .u8 0, .int .u8 0, .int .u8 0, .int .u8 0, .int .u8 0] 41 zs _ (HR.out.alloc _) (heap_alloc_new _ _) (by decide) (by decide) (by unfold maxLen; omega) (by omega) hne hn2
  refine Calls.mono ca ?_
  rintro e w1 ⟨rfl, x1, x2, x3⟩
  have X1 : Hid _ := x1
  have X2 : Hid _ := x2
  have X3 : Hid _ := x3
  clear x1 x2 ca x3
  go_wp2_with fail
  have ca := readFull_full rb w.heap.size 2 4 4 db doff len dcap 2 step et ex _ 41 zs w1 X1.out X2.out (by decide) (by rw [length_splice _ _ _ (by rw [taken_len (by omega)]; decide)]; decide) (by unfold maxLen; omega) (by omega) hne hn2
  refine Calls.mono ca ?_
  rintro e w2 ⟨rfl, y1, y2, y3⟩
  rw [hdr_row rfl h6] at y2
  have hbut : But rb rb w w2 := but_two (g := 0) X3.out y3
  have Y1 : Hid _ := y1
  have HS : Hid (NumS rb w.heap.size zs w w2) := ⟨y2, hbut⟩
  clear y1 ca y3 y2 hbut X1 X2 X3
  go_wp2
  go_region_held3 (fun w' => NumS rb w.heap.size zs w w') (first | exact numS_drew HS.out | exact numS_below (by assumption) (by assumption) | exact numS_but (by assumption) (fun h => hne h.symm) (by assumption))
    (first
      | (go_at_call 11; refine Calls.mono (u16_hdr (by exact HS.out.1) h6 HB.out HE.out) ?_; rintro e w5 ⟨rfl, hb11⟩)
      | (go_at_call 10; refine Calls.mono (readBody_any rb n db doff len dcap 6 step et ex zs _ ((Y1.out.below (Below.refl _ _).drew).below hb11) hn (by omega)) ?_; rintro e w6 ⟨v, rfl, z1, z2, hb10⟩; have Z1 : Hid _ := z1; have Z2 : Hid _ := z2; clear z1 z2))
  have hF : NumS rb w.heap.size zs w w6 := by assumption
  have HF : Hid _ := hF
  have hs5 : w.heap.size ≤ w5.heap.size := by
    have a1 := HS.out.2.size
    have a2 := hb11.size
    exact Nat.le_trans a1 a2
  have HZ2 : Hid (BodyIs w.heap.size n 6 zs v w6) := BodyIs.mono Z2.out hs5
  clear hF hb11 hb10 Z2
  go_wp2
  go_region_held3 (fun w' => NumS rb w.heap.size zs w w') (first | exact numS_drew HF.out | exact numS_below (by assumption) (by assumption))
    (first
      | (go_at_call 12; refine Calls.mono (u32_hdr (by exact HF.out.1) h6 HB.out HN.out) ?_; rintro e w8 ⟨rfl, hb12⟩))
  have hG : NumS rb w.heap.size zs w w8 := by assumption
  go_wp2
  refine bodyPost_ret (v := .tuple #[.int .u32 num, v, .nilIface]) (by simp [results, Ybad.f6, go_sem]) rfl ?_
  exact ⟨v, rfl, (Z1.out.below (Below.refl _ _).drew).below hb12, BodyIs.below (BodyIs.below HZ2.out (Below.refl _ _).drew) hb12, hG.2⟩

end Go.Proofs.YbulkcjvoDoor

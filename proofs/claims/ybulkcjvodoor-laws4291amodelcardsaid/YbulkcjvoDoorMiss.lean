/-
  io.ReadFull, readBody and ReadNumbered, where too little is left to read.
-/
import Derived.Test.YbulkcjvoDoorShort
namespace Go.Proofs.YbulkcjvoDoor
open Go.RowKit
set_option linter.unusedVariables false

theorem unexp_any {a0 a1 ae au ax : Addr} {rb : Nat} {w : World} (h : Errs a0 a1 ae au rb w) (hx : ax = ae ∨ ax = au) : Calls Ybad.prog 9 #[errV ax] w fun e w' => e = .returned (errV au) ∧ w' = w := by
  rcases hx with rfl | rfl
  · exact unexp_e h
  · exact unexp_u h

set_option maxHeartbeats 1000000 in
theorem readFull_end (rb m mc pb po : Nat) (da : Option Addr) (len dcap : Nat) (pos step : Int) (ae : Addr) (w : World)
    (hr : w.heap[rb]? = some (.cells (rdCells (.slice da len dcap) pos step (errV ae)) 28 (0, 0))) (he : (len : Int) ≤ pos) (hm0 : 0 < m) (hm : m ≤ mc) (hmx : mc ≤ maxLen) :
    Calls Ybad.prog 8 #[.iface 26 (.pointer (some ⟨rb, 0, none⟩)), .slice (some ⟨pb, po, none⟩) m mc] w fun e w' => e = .returned (.tuple #[.int .i64 0, errV ae]) ∧ ∃ q, w' = w.drewN q := by
  have CA : Hid _ := atLeast_end rb m mc pb po da len dcap pos step ae w hr he hm0 hm hmx
  clear hr
  go_enter Ybad.func8, Ybad.ntmps8
  go_wp2_with fail
  refine Calls.mono CA.out ?_
  rintro e w1 ⟨rfl, q, hq⟩
  go_wp2
  go_ret2
  exact ⟨rfl, q, by first | rfl | exact hq⟩

set_option maxHeartbeats 1000000 in
theorem readFull_short (rb pb po m mc db doff len dcap pos rest : Nat) (step : Int) (a0 a1 ae au : Addr) (buf : List Value) (T : TypeId) (zs : List Int) (w : World)
    (hr : Reader rb db doff len dcap pos step 36 (.pointer (some ae)) zs w) (hE : Errs a0 a1 ae au rb w) (hp : w.heap[pb]? = some (.cells buf.toArray T (0, 0)))
    (hm : m ≤ mc) (hmc : po + mc ≤ buf.length) (hmx : mc ≤ maxLen) (hlt : pos + rest = len) (h0 : 0 < rest) (hrm : rest < m) (hrp : rb < pb) (hn2 : db ≠ pb) :
    Calls Ybad.prog 8 #[.iface 26 (.pointer (some ⟨rb, 0, none⟩)), .slice (some ⟨pb, po, none⟩) m mc] w fun e w' => e = .returned (.tuple #[.int .i64 (rest : Nat), errV au]) ∧
      Reader rb db doff len dcap len step 36 (.pointer (some ae)) zs w' ∧ But rb pb w w' := by
  have CA : Hid _ := atLeast_short rb pb po m mc db doff len dcap pos rest step a0 a1 ae au buf T zs w hr hE hp hm hmc hmx hlt h0 hrm hrp hn2
  clear hr hE hp
  go_enter Ybad.func8, Ybad.ntmps8
  go_wp2_with fail
  refine Calls.mono CA.out ?_
  rintro e w1 ⟨rfl, x1, x3⟩
  have X1 : Hid _ := x1
  clear x1
  go_wp2
  go_ret2
  exact ⟨rfl, X1.out, x3⟩

/-- Too little is left: an error, the reader's own or the other. -/
theorem readFull_miss (rb pb po m mc db doff len dcap pos rest : Nat) (step : Int) (a0 a1 ae au : Addr) (buf : List Value) (T : TypeId) (zs : List Int) (w : World)
    (hr : Reader rb db doff len dcap pos step 36 (.pointer (some ae)) zs w) (hE : Errs a0 a1 ae au rb w) (hp : w.heap[pb]? = some (.cells buf.toArray T (0, 0)))
    (hm : m ≤ mc) (hmc : po + mc ≤ buf.length) (hmx : mc ≤ maxLen) (hlt : pos + rest = len) (hrm : rest < m) (hrp : rb < pb) (hn2 : db ≠ pb) :
    Calls Ybad.prog 8 #[.iface 26 (.pointer (some ⟨rb, 0, none⟩)), .slice (some ⟨pb, po, none⟩) m mc] w fun e w' => ∃ ax, e = .returned (.tuple #[.int .i64 (rest : Nat), errV ax]) ∧ (ax = ae ∨ ax = au) ∧
      Reader rb db doff len dcap len step 36 (.pointer (some ae)) zs w' ∧ But rb pb w w' := by
  rcases Nat.eq_zero_or_pos rest with h0 | h0
  · subst h0
    obtain rfl : pos = len := by omega
    refine (readFull_end rb m mc pb po _ pos dcap pos step ae w hr.box (Int.le_refl _) (by omega) hm hmx).mono ?_
    rintro e w' ⟨rfl, q, rfl⟩
    exact ⟨ae, rfl, .inl rfl, ⟨hr.box, hr.data, hr.lenEq, hr.le, hr.cap, hr.ne⟩, ⟨rfl, rfl, rfl, Nat.le_refl _, fun _ _ _ _ => rfl⟩⟩
  · refine (readFull_short rb pb po m mc db doff len dcap pos rest step a0 a1 ae au buf T zs w hr hE hp hm hmc hmx hlt h0 hrm hrp hn2).mono ?_
    rintro e w' ⟨rfl, h1, h2⟩
    exact ⟨au, rfl, .inr rfl, h1, h2⟩

theorem Errs.alloc {a0 a1 ae au : Addr} {rb : Nat} {W : World} (h : Errs a0 a1 ae au rb W) (o : Obj) : Errs a0 a1 ae au rb (W.alloc o) := h.below ((Below.refl _ _).alloc (Nat.le_refl _) _)

set_option maxHeartbeats 1000000 in
theorem readBody_short (rb n db doff len dcap pos rest : Nat) (step : Int) (a0 a1 ae au : Addr) (zs : List Int) (w : World)
    (hr : Reader rb db doff len dcap pos step 36 (.pointer (some ae)) zs w) (hE : Errs a0 a1 ae au rb w) (hn : n ≤ 65535) (hlt : pos + rest = len) (h0 : 0 < len) (hrn : rest < n) :
    Calls Ybad.prog 10 #[.iface 26 (.pointer (some ⟨rb, 0, none⟩)), .int .u16 n] w fun e w' => e = .returned (.tuple #[.slice none 0 0, errV au]) ∧
      Reader rb db doff len dcap len step 36 (.pointer (some ae)) zs w' ∧ But rb rb w w' := by
  have hmk := fun W => make_bytes .u16 n hn W
  have h2 : ¬ n = 0 := by omega
  have h3 : ((n : Int) == 0) = false := by simp; omega
  have h4 : ¬ (n : Int) = 0 := by omega
  have HR : Hid _ := hr
  have HE : Hid _ := hE
  have hrp : rb < w.heap.size := lt_of_get hr.box
  have hn2 : db ≠ w.heap.size := Nat.ne_of_lt (hr.db_lt h0)
  clear hr hE
  go_enter Ybad.func10, Ybad.ntmps10
  go_wp2_with fail
  have ca := readFull_miss rb w.heap.size 0 n n db doff len dcap pos rest step a0 a1 ae au (madeCells #[.int .u8 0] n).toList 5 zs (w.alloc (.cells (madeCells #[.int .u8 0] n) 5)) (HR.out.alloc _) (HE.out.alloc _) (heap_alloc_new _ _) (Nat.le_refl _) (by simp [size_madeCells]) (by unfold maxLen; omega) hlt hrn hrp hn2
  refine Calls.mono ca ?_
  rintro e w1 ⟨ax, rfl, hx, x1, x3⟩
  have X1 : Hid _ := x1
  have hE1 := (HE.out.alloc (.cells (madeCells #[.int .u8 0] n) 5)).but x3 (Nat.le_of_lt hrp)
  have HU : Hid _ := unexp_any hE1 hx
  clear x1 ca hE1 hx
  go_wp2_with fail
  refine Calls.mono HU.out ?_
  rintro e w2 ⟨rfl, hw⟩
  obtain rfl := hw.symm
  go_wp2
  go_ret2
  exact ⟨rfl, X1.out, x3.of_alloc⟩

set_option maxHeartbeats 1000000 in
/-- Nothing to read at all. -/
theorem num_zero (rb : Nat) (da : Option Addr) (dcap : Nat) (step : Int) (ae : Addr) (w : World)
    (hr : w.heap[rb]? = some (.cells (rdCells (.slice da 0 dcap) 0 step (errV ae)) 28 (0, 0))) :
    Calls Ybad.prog 6 #[.iface 26 (.pointer (some ⟨rb, 0, none⟩))] w fun e w' => e = .returned (.tuple #[.int .u32 0, .slice none 0 0, errV ae]) ∧
      w'.heap[rb]? = some (.cells (rdCells (.slice da 0 dcap) 0 step (errV ae)) 28 (0, 0)) ∧ Below w.heap.size w w' := by
  have HR : Hid _ := hr
  clear hr
  go_enter Ybad.func6, Ybad.ntmps6
  go_wp2_with fail
  refine Calls.mono (readFull_end rb 2 6 w.heap.size 0 da 0 dcap 0 step ae _ (by rw [Below.heap_alloc _ _ _ (lt_of_get HR.out)]; exact HR.out) (by decide) (by decide) (by decide) (by unfold maxLen; omega)) ?_
  rintro e w1 ⟨rfl, q, hq⟩
  have hb : Below w.heap.size w w1 := by
    have h := (Below.refl w.heap.size w).alloc (Nat.le_refl _) (.cells #[.int .u8 0, .int .u8 0, .int .u8 0, .int .u8 0, .int .u8 0, .int .u8 0] 41)
    rw [hq]; exact ⟨h.os, h.tape, h.output, h.size, h.block⟩
  clear hq
  go_wp2
  refine bodyPost_ret (v := .tuple #[.int .u32 0, .slice none 0 0, errV ae]) (by simp [results, Ybad.f6, go_sem]) rfl ?_
  exact ⟨rfl, by rw [hb.block rb (lt_of_get HR.out)]; exact HR.out, hb⟩

set_option maxHeartbeats 1000000 in
/-- The header is cut short in its first two bytes. -/
theorem num_one (rb db doff len dcap : Nat) (step : Int) (a0 a1 ae au : Addr) (zs : List Int) (w : World)
    (hr : Reader rb db doff len dcap 0 step 36 (.pointer (some ae)) zs w) (hE : Errs a0 a1 ae au rb w) (h0 : 0 < len) (h2 : len < 2) :
    Calls Ybad.prog 6 #[.iface 26 (.pointer (some ⟨rb, 0, none⟩))] w fun e w' => e = .returned (.tuple #[.int .u32 0, .slice none 0 0, errV au]) ∧
      Reader rb db doff len dcap len step 36 (.pointer (some ae)) zs w' ∧ But rb rb w w' := by
  have hrp : rb < w.heap.size := lt_of_get hr.box
  have hn2 : db ≠ w.heap.size := Nat.ne_of_lt (hr.db_lt h0)
  have HR : Hid _ := hr
  have HE : Hid _ := hE
  clear hr hE
  go_enter Ybad.func6, Ybad.ntmps6
  go_wp2_with fail
  have ca := readFull_short rb w.heap.size 0 2 6 db doff len dcap 0 len step a0 a1 ae au [.int .u8 0, .int .u8 0, .int .u8 0, .int .u8 0, .int .u8 0, .int .u8 0] 41 zs _ (HR.out.alloc _) (HE.out.alloc _) (heap_alloc_new _ _) (by decide) (by decide) (by unfold maxLen; omega) (by omega) h0 h2 hrp hn2
  refine Calls.mono ca ?_
  rintro e w1 ⟨rfl, x1, x3⟩
  have X1 : Hid _ := x1
  clear x1 ca
  go_wp2
  refine bodyPost_ret (v := .tuple #[.int .u32 0, .slice none 0 0, errV au]) (by simp [results, Ybad.f6, go_sem]) rfl ?_
  exact ⟨rfl, X1.out, x3.of_alloc⟩

set_option maxHeartbeats 1000000 in
/-- The header is cut short behind its first two bytes. -/
theorem num_two (rb db doff len dcap : Nat) (step : Int) (a0 a1 ae au : Addr) (zs : List Int) (w : World)
    (hr : Reader rb db doff len dcap 0 step 36 (.pointer (some ae)) zs w) (hE : Errs a0 a1 ae au rb w) (h2 : 2 ≤ len) (h6 : len < 6) :
    Calls Ybad.prog 6 #[.iface 26 (.pointer (some ⟨rb, 0, none⟩))] w fun e w' => e = .returned (.tuple #[.int .u32 0, .slice none 0 0, errV au]) ∧
      Reader rb db doff len dcap len step 36 (.pointer (some ae)) zs w' ∧ But rb rb w w' := by
  have hrp : rb < w.heap.size := lt_of_get hr.box
  have hne : rb ≠ w.heap.size := Nat.ne_of_lt hrp
  have hn2 : db ≠ w.heap.size := Nat.ne_of_lt (hr.db_lt (by omega))
  have hzl := hr.lenEq
  have HR : Hid _ := hr
  have HE : Hid _ := hE
  clear hr hE
  go_enter Ybad.func6, Ybad.ntmps6
  go_wp2_with fail
  have ca := readFull_full rb w.heap.size 0 2 6 db doff len dcap 0 step 36 (.pointer (some ae)) [.int .u8 0, .int .u8 0, .int .u8 0, .int .u8 0, .int .u8 0, .int .u8 0] 41 zs _ (HR.out.alloc _) (heap_alloc_new _ _) (by decide) (by decide) (by unfold maxLen; omega) (by omega) hne hn2
  refine Calls.mono ca ?_
  rintro e w1 ⟨rfl, x1, x2, x3⟩
  have X1 : Hid _ := x1
  have X2 : Hid _ := x2
  have X3 : Hid _ := x3
  have E1 : Hid _ := (HE.out.alloc (.cells #[.int .u8 0, .int .u8 0, .int .u8 0, .int .u8 0, .int .u8 0, .int .u8 0] 41)).but x3 (Nat.le_of_lt hrp)
  clear x1 x2 ca x3
  go_wp2_with fail
  have ca := readFull_miss rb w.heap.size 2 4 4 db doff len dcap 2 (len - 2) step a0 a1 ae au _ 41 zs w1 X1.out E1.out X2.out (by decide) (by rw [length_splice _ _ _ (by rw [taken_len (by omega)]; decide)]; decide) (by unfold maxLen; omega) (by omega) (by omega) hrp hn2
  refine Calls.mono ca ?_
  rintro e w2 ⟨ax, rfl, hx, y1, y3⟩
  have Y1 : Hid _ := y1
  have HU : Hid _ := unexp_any (E1.out.but y3 (Nat.le_of_lt hrp)) hx
  have hbut : But rb rb w w2 := but_two (g := 0) X3.out y3
  clear y1 ca y3 hx X1 X2 X3
  go_wp2_with fail
  refine Calls.mono HU.out ?_
  rintro e w3 ⟨rfl, hw⟩
  obtain rfl := hw.symm
  go_wp2
  refine bodyPost_ret (v := .tuple #[.int .u32 0, .slice none 0 0, errV au]) (by simp [results, Ybad.f6, go_sem]) rfl ?_
  exact ⟨rfl, Y1.out, hbut⟩

set_option maxHeartbeats 1000000 in
/-- The header is there, the body is cut short. -/
theorem num_body (rb n db doff len dcap : Nat) (step : Int) (a0 a1 ae au : Addr) (zs : List Int) (w : World)
    (hr : Reader rb db doff len dcap 0 step 36 (.pointer (some ae)) zs w) (hE : Errs a0 a1 ae au rb w) (hn : n ≤ 65535) (hl : 6 ≤ len) (hlt : len < 6 + n) (hb : ∀ i, i < 6 → 0 ≤ zs.getD i 0 ∧ zs.getD i 0 < 256) (hbe : Lib.beZ [zs.getD 0 0, zs.getD 1 0] = n) (num : Int) (hnum : Lib.beZ [zs.getD 2 0, zs.getD 3 0, zs.getD 4 0, zs.getD 5 0] = num) :
    Calls Ybad.prog 6 #[.iface 26 (.pointer (some ⟨rb, 0, none⟩))] w fun e w' => e = .returned (.tuple #[.int .u32 num, .slice none 0 0, errV au]) ∧
      Reader rb db doff len dcap len step 36 (.pointer (some ae)) zs w' ∧ But rb rb w w' := by
  have h6 : 6 ≤ zs.length := by rw [hr.lenEq]; omega
  have hne : rb ≠ w.heap.size := Nat.ne_of_lt (lt_of_get hr.box)
  have hrp : rb < w.heap.size := lt_of_get hr.box
  have hn2 : db ≠ w.heap.size := Nat.ne_of_lt (hr.db_lt (by omega))
  have HR : Hid _ := hr
  have HEr : Hid _ := hE
  have HB : Hid _ := hb
  have HE : Hid _ := hbe
  have HN : Hid _ := hnum
  clear hr hb hbe hnum hE
  go_enter Ybad.func6, Ybad.ntmps6
  go_wp2_with fail
  have ca := readFull_full rb w.heap.size 0 2 6 db doff len dcap 0 step 36 (.pointer (some ae)) [.int .u8 0, .int .u8 0, .int .u8 0, .int .u8 0, .int .u8 0, .int .u8 0] 41 zs _ (HR.out.alloc _) (heap_alloc_new _ _) (by decide) (by decide) (by unfold maxLen; omega) (by omega) hne hn2
  refine Calls.mono ca ?_
  rintro e w1 ⟨rfl, x1, x2, x3⟩
  have X1 : Hid _ := x1
  have X2 : Hid _ := x2
  have X3 : Hid _ := x3
  clear x1 x2 ca x3
  go_wp2_with fail
  have ca := readFull_full rb w.heap.size 2 4 4 db doff len dcap 2 step 36 (.pointer (some ae)) _ 41 zs w1 X1.out X2.out (by decide) (by rw [length_splice _ _ _ (by rw [taken_len (by omega)]; decide)]; decide) (by unfold maxLen; omega) (by omega) hne hn2
  refine Calls.mono ca ?_
  rintro e w2 ⟨rfl, y1, y2, y3⟩
  rw [hdr_row rfl h6] at y2
  have hbut : But rb rb w w2 := but_two (g := 0) X3.out y3
  have Y1 : Hid _ := y1
  have HS : Hid (NumS rb w.heap.size zs w w2) := ⟨y2, hbut⟩
  have E2 : Hid _ := HEr.out.but hbut (Nat.le_refl _)
  clear y1 ca y3 y2 hbut X1 X2 X3
  go_wp2
  go_region_held3 (fun w' => NumS rb w.heap.size zs w w') (first | exact numS_drew HS.out | exact numS_below (by assumption) (by assumption) | exact numS_but (by assumption) (fun h => hne h.symm) (by assumption))
    (first
      | (go_at_call 11; refine Calls.mono (u16_hdr (by exact HS.out.1) h6 HB.out HE.out) ?_; rintro e w5 ⟨rfl, hb11⟩)
      | (go_at_call 10; refine Calls.mono (readBody_short rb n db doff len dcap 6 (len - 6) step a0 a1 ae au zs _ ((Y1.out.below (Below.refl _ _).drew).below hb11) ((E2.out.below (Below.refl _ _).drew).below hb11) hn (by omega) (by omega) (by omega)) ?_; rintro e w6 ⟨rfl, z1, hb10⟩; have Z1 : Hid _ := z1; clear z1))
  have hF : NumS rb w.heap.size zs w w6 := by assumption
  have HF : Hid _ := hF
  clear hF hb11 hb10
  go_wp2
  go_region_held3 (fun w' => NumS rb w.heap.size zs w w') (first | exact numS_drew HF.out | exact numS_below (by assumption) (by assumption))
    (first
      | (go_at_call 12; refine Calls.mono (u32_hdr (by exact HF.out.1) h6 HB.out HN.out) ?_; rintro e w8 ⟨rfl, hb12⟩))
  have hG : NumS rb w.heap.size zs w w8 := by assumption
  go_wp2
  refine bodyPost_ret (v := .tuple #[.int .u32 num, .slice none 0 0, errV au]) (by simp [results, Ybad.f6, go_sem]) rfl ?_
  exact ⟨rfl, (Z1.out.below (Below.refl _ _).drew).below hb12, hG.2⟩

end Go.Proofs.YbulkcjvoDoor

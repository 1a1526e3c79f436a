/-
  slices.Clone, slices.Equal at []string, and the law's own comparison.
-/
import Derived.Test.YbulkcjumProg
import Derived.Test.YbulkcjumKeep
import Derived.Lib.SliceRun
import Derived.Deep.QuietTactic
import Derived.BigQuiet
import Derived.WalkSmall
namespace Go.Proofs.Ybulkcjum
open Go.RowKit
set_option linter.unusedVariables false

theorem Yba.info9 : (Yba.prog.info? 9).map (fun i => (i.zero, i.size, i.bytes)) = some (some (.string ByteArray.empty), 1, 16) := by kernel_rfl

/-- The slice value '.slice ao n cap' reads as the strings ss. -/
def Rd (w : World) (ao : Option Addr) (n cap : Nat) (ss : List ByteArray) : Prop :=
  (ao = none → n = 0 ∧ cap = 0) ∧ ss.length = n ∧ ∀ ad, ao = some ad → ∀ j, j < n → w.cell? (ad.add j) = some (.string (ss.getD j ByteArray.empty))

theorem Rd.next {w w' : World} {ao : Option Addr} {n cap : Nat} {ss : List ByteArray} (h : Rd w ao n cap ss) (hb : Below w.heap.size w w') : Rd w' ao n cap ss := by
  refine ⟨h.1, h.2.1, fun ad had j hj => ?_⟩
  have hc := h.2.2 ad had j hj
  rw [hb.cell (p := ad.add j) (World.block_lt_of_cell? w _ hc)]
  exact hc

def strCells (ss : List ByteArray) : List Value := ss.map Value.string

/-- What the clone leaves: its value, read as the same strings. -/
theorem rd_of_own {w : World} {B n : Nat} {v : Value} {ss : List ByteArray} (h : w.ownsRow B 9 1 v n (strCells ss)) (hn : ss.length = n) : ∃ ao cap, v = .slice ao n cap ∧ Rd w ao n cap ss := by
  rcases h.2 with ⟨rfl, rfl⟩ | ⟨g, cap, cur, rfl, hb, hg, hnc, hm, _, _⟩
  · exact ⟨none, 0, rfl, ⟨fun _ => ⟨rfl, rfl⟩, hn, fun ad had => by cases had⟩⟩
  · refine ⟨_, cap, rfl, ⟨(fun h => by cases h), hn, fun ad had j hj => ?_⟩⟩
    obtain rfl := Option.some.inj had
    rw [Addr.add_lit, Nat.zero_add, h.cellAt j (by omega)]
    have hj' : j < ss.length := by omega
    simp [strCells, hj']

set_option maxHeartbeats 400000 in
theorem clone_some (ad : Addr) (n cap : Nat) (ss : List ByteArray) (w : World) (h : Rd w (some ad) n cap ss) (hn : n ≤ 1024) :
    Calls Yba.prog 4 #[.slice (some ad) n cap] w fun e w' => ∃ v, e = .returned v ∧ w'.ownsRow w.heap.size 9 1 v n (strCells ss) ∧ Below w.heap.size w w' := by
  obtain ⟨i0, hi, hz0, hz1, hz2⟩ := info_parts Yba.info9
  have hq := fun wx => Lib.run_eql_slice_nil (P := Yba.prog) wx 22 9 (some ad) n cap 0 0 Yba.underlying22
  have HH : Hid _ := h
  clear h
  go_enter Yba.func4, Yba.ntmps4
  go_wp2_with (at_builtin; refine wpList_append_src _ rfl _ _ 22 rfl w.heap.size 9 i0 (.string ByteArray.empty) 1 16 Yba.underlying22 hi hz0 hz1 hz2 rfl (by decide) _ 0 [] rfl ?own (some ad) n cap (strCells ss) rfl ?c0 ?c1 ?c2 ?c3 ?c4 ?c5 ?c6 ?_)
  case own => exact World.ownsRow_made w #[] 0 (Nat.le_refl _) (by decide) rfl
  case c0 => intro h; cases h
  case c1 => simp [strCells, HH.out.2.1]
  case c2 =>
    intro ad' had j u hj
    have hj2 : j < ss.length := by
      have := (List.getElem?_eq_some_iff.1 hj).1
      simpa [strCells] using this
    have hc := HH.out.2.2 ad' had j (by have := HH.out.2.1; omega)
    have hu : u = .string (ss.getD j ByteArray.empty) := by
      simp [strCells, hj2] at hj
      rw [← hj]
      simp [hj2]
    rw [World.cell?_of_block (w := w) (Below.heap_alloc w _ _ (World.block_lt_of_cell? w _ hc)), hc, hu]
  case c3 =>
    intro u hu
    obtain ⟨x, _, rfl⟩ := List.mem_map.1 hu
    rfl
  case c4 => unfold maxLen; omega
  case c5 => omega
  case c6 => simp
  intro v' w2 ho hk hg
  go_wp2
  go_ret
  exact ⟨_, rfl, ho, ((Below.refl _ w).alloc (Nat.le_refl _) _).grown hg (by simp) (fun k hk => by simp [Value.ownBlock] at hk; omega)⟩

set_option maxHeartbeats 400000 in
theorem clone_nil (w : World) :
    Calls Yba.prog 4 #[.slice none 0 0] w fun e w' => e = .returned (.slice none 0 0) ∧ w' = w := by
  have hq := fun wx => Lib.run_eql_slice_nil (P := Yba.prog) wx 22 9 none 0 0 0 0 Yba.underlying22
  go_enter Yba.func4, Yba.ntmps4
  go_wp2
  go_ret
  exact ⟨rfl, rfl⟩

/-- slices.Clone: a slice that reads as the same strings, in memory of its own; nothing old has turned. -/
theorem clone_any (ao : Option Addr) (n cap : Nat) (ss : List ByteArray) (w : World) (h : Rd w ao n cap ss) (hn : n ≤ 1024) :
    Calls Yba.prog 4 #[.slice ao n cap] w fun e w' => ∃ ao' cap', e = .returned (.slice ao' n cap') ∧ Rd w' ao' n cap' ss ∧ Below w.heap.size w w' := by
  cases ao with
  | none =>
    obtain ⟨rfl, rfl⟩ := h.1 rfl
    exact (clone_nil w).mono fun e w' ⟨a, b⟩ => ⟨none, 0, a, by subst b; exact h, by subst b; exact Below.refl _ _⟩
  | some ad =>
    refine (clone_some ad n cap ss w h hn).mono ?_
    rintro e w' ⟨v, rfl, ho, hb⟩
    obtain ⟨ao', cap', rfl, hr⟩ := rd_of_own ho h.2.1
    exact ⟨ao', cap', rfl, hr, hb⟩

/-! The two comparisons. -/
/-- Are the two lists of strings the same, byte for byte? -/
def eqS (ss tt : List ByteArray) : Bool := decide (ss.map ByteArray.toList = tt.map ByteArray.toList)

theorem eqS_same (ss : List ByteArray) : eqS ss ss = true := by simp [eqS]
theorem eqS_len {ss tt : List ByteArray} (h : ss.length ≠ tt.length) : eqS ss tt = false := by
  simp only [eqS, decide_eq_false_iff_not]
  intro hc
  have := congrArg List.length hc
  simp at this
  exact h this
theorem eqS_yes {ss tt : List ByteArray} (hl : ss.length = tt.length) (h : ∀ j, j < ss.length → (ss.getD j ByteArray.empty).toList = (tt.getD j ByteArray.empty).toList) : eqS ss tt = true := by
  simp only [eqS, decide_eq_true_eq]
  refine List.ext_getElem (by simpa using hl) fun j h1 h2 => ?_
  simp at h1 h2
  have := h j h1
  simpa [h1, h2] using this
theorem eqS_no {ss tt : List ByteArray} {j : Nat} (h1 : j < ss.length) (h2 : j < tt.length) (h : (ss.getD j ByteArray.empty).toList ≠ (tt.getD j ByteArray.empty).toList) : eqS ss tt = false := by
  simp only [eqS, decide_eq_false_iff_not]
  intro hc
  apply h
  have := congrArg (fun l : List (List UInt8) => l[j]?) hc
  simp [h1, h2] at this
  simpa [h1, h2] using this

/-- The address of a slice that has an element. -/
theorem Rd.spot {w : World} {ad : Addr} {n cap : Nat} {ss : List ByteArray} (h : Rd w (some ad) n cap ss) (hn : 0 < n) :
    ∃ b off, ad = ⟨b, off, none⟩ ∧ ∀ j, j < n → w.cell? ⟨b, off + j, none⟩ = some (.string (ss.getD j ByteArray.empty)) := by
  obtain ⟨b, off, spot⟩ := ad
  have hc := h.2.2 _ rfl 0 hn
  have hs : spot = none := by simpa [Addr.add] using World.cell?_spot hc
  subst hs
  exact ⟨b, off, rfl, fun j hj => by have := h.2.2 _ rfl j hj; rwa [Addr.add_lit] at this⟩

set_option maxHeartbeats 400000 in
theorem eq_len (ao bo : Option Addr) (n m c c' : Nat) (w : World) (hn : n ≤ 1024) (hm : m ≤ 1024) (h : n ≠ m) :
    Calls Yba.prog 6 #[.slice ao n c, .slice bo m c'] w fun e w' => e = .returned (.bool false) ∧ w' = w := by
  have hb : ((n : Int) != (m : Int)) = true := by rw [bne_iff_ne]; omega
  clear h
  go_enter Yba.func6, Yba.ntmps6
  go_wp2
  go_ret
  exact ⟨rfl, rfl⟩

set_option maxHeartbeats 400000 in
theorem eq_none (ao bo : Option Addr) (c c' : Nat) (w : World) :
    Calls Yba.prog 6 #[.slice ao 0 c, .slice bo 0 c'] w fun e w' => e = .returned (.bool true) ∧ w' = w := by
  go_enter Yba.func6, Yba.ntmps6
  go_wp2_with fail
  go_loop [5] (fun i => i = .int .i64 0) (fun _ => 0)
  case atStart => rfl
  case round =>
    subst hrel
    go_wp2
    go_ret
    exact ⟨rfl, rfl⟩

set_option maxHeartbeats 1000000 in
theorem eq_row (b off b' off' n c c' : Nat) (ss tt : List ByteArray) (w : World) (hn : n ≤ 1024) (hpos : 0 < n) (h1 : ss.length = n) (h2 : tt.length = n)
    (c1 : ∀ j, j < n → w.cell? ⟨b, off + j, none⟩ = some (.string (ss.getD j ByteArray.empty))) (c2 : ∀ j, j < n → w.cell? ⟨b', off' + j, none⟩ = some (.string (tt.getD j ByteArray.empty))) :
    Calls Yba.prog 6 #[.slice (some ⟨b, off, none⟩) n c, .slice (some ⟨b', off', none⟩) n c'] w fun e w' => e = .returned (.bool (eqS ss tt)) ∧ ∃ q, w' = w.drewN q := by
  have C1 : Hid _ := c1
  have C2 : Hid _ := c2
  have H1 : Hid _ := h1
  have H2 : Hid _ := h2
  clear c1 c2 h1 h2
  go_enter Yba.func6, Yba.ntmps6
  go_wp2_with fail
  go_loopw [5] (fun i wr => ∃ k q : Nat, k ≤ n ∧ i = .int .i64 k ∧ wr = w.drewN q ∧ ∀ j, j < k → (ss.getD j ByteArray.empty).toList = (tt.getD j ByteArray.empty).toList) (fun i _ => n - (intOf i).toNat)
  case atStart => exact ⟨0, 0, Nat.zero_le _, rfl, rfl, fun j hj => absurd hj (Nat.not_lt_zero _)⟩
  case round =>
    obtain ⟨k, q, hk, rfl, hwr, hpre⟩ := hrel
    have HP : Hid _ := hpre
    have HW : Hid _ := hwr
    clear hpre hwr
    by_cases hlt : k < n
    · have e1 : wr.cell? ⟨b, off + k, none⟩ = some (.string (ss.getD k ByteArray.empty)) := by rw [HW.out]; exact C1.out k hlt
      have e2 : wr.cell? ⟨b', off' + k, none⟩ = some (.string (tt.getD k ByteArray.empty)) := by rw [HW.out]; exact C2.out k hlt
      have k1 : (k : Int) < (n : Int) := by omega
      obtain ⟨x, hx⟩ : ∃ x, ss.getD k ByteArray.empty = x := ⟨_, rfl⟩
      obtain ⟨y, hy⟩ : ∃ y, tt.getD k ByteArray.empty = y := ⟨_, rfl⟩
      rw [hx] at e1
      rw [hy] at e2
      have HX : Hid _ := hx
      have HY : Hid _ := hy
      clear hx hy
      by_cases hxy : x.toList = y.toList
      · have hb : (x.toList == y.toList) = true := by simp [hxy]
        have HXY : Hid _ := hxy
        clear hxy
        go_wp2
        go_quiet (fail)
        go_wp2
        go_roundw
        case rel =>
          refine ⟨k + 1, q + nq, by omega, by go_num, by rw [HW.out, World.drewN_drewN], fun j hj => ?_⟩
          by_cases hjk : j < k
          · exact HP.out j hjk
          · obtain rfl : j = k := by omega
            rw [HX.out, HY.out]; exact HXY.out
        case measure => simp [intOf]; omega
      · have hb : (x.toList == y.toList) = false := by simp [hxy]
        have hfin : eqS ss tt = false := eqS_no (j := k) (by have := H1.out; omega) (by have := H2.out; omega) (by rw [HX.out, HY.out]; exact hxy)
        have HF : Hid _ := hfin
        clear hxy hfin
        go_wp2
        go_quiet (fail)
        go_wp2
        go_ret
        exact ⟨by rw [HF.out]; rfl, q + nq, by rw [HW.out, World.drewN_drewN]⟩
    · obtain rfl : k = n := by omega
      have hfin : eqS ss tt = true := eqS_yes (by rw [H1.out, H2.out]) (by rw [H1.out]; exact HP.out)
      have HF : Hid _ := hfin
      clear hfin
      go_wp2
      go_ret
      exact ⟨by rw [HF.out]; rfl, q, HW.out⟩

theorem eq_any (ao bo : Option Addr) (n m c c' : Nat) (ss tt : List ByteArray) (w : World) (h1 : Rd w ao n c ss) (h2 : Rd w bo m c' tt) (hn : n ≤ 1024) (hm : m ≤ 1024) :
    Calls Yba.prog 6 #[.slice ao n c, .slice bo m c'] w fun e w' => e = .returned (.bool (eqS ss tt)) ∧ ∃ q, w' = w.drewN q := by
  by_cases h : n = m
  · subst h
    by_cases h0 : n = 0
    · subst h0
      have q1 : ss = [] := List.eq_nil_of_length_eq_zero h1.2.1
      have q2 : tt = [] := List.eq_nil_of_length_eq_zero h2.2.1
      subst q1 q2
      rw [eqS_same]
      exact (eq_none ao bo c c' w).mono fun e w' ⟨a, b⟩ => ⟨a, 0, b⟩
    · cases ao with
      | none => exact absurd (h1.1 rfl).1 h0
      | some ad =>
        cases bo with
        | none => exact absurd (h2.1 rfl).1 h0
        | some bd =>
          obtain ⟨b, off, rfl, d1⟩ := h1.spot (by omega)
          obtain ⟨b', off', rfl, d2⟩ := h2.spot (by omega)
          exact eq_row b off b' off' n c c' ss tt w hn (by omega) h1.2.1 h2.2.1 d1 d2
  · rw [eqS_len (by rw [h1.2.1, h2.2.1]; exact h)]
    exact (eq_len ao bo n m c c' w hn hm h).mono fun e w' ⟨a, b⟩ => ⟨a, 0, b⟩

set_option maxHeartbeats 400000 in
theorem equal_len (ao bo : Option Addr) (n m c c' : Nat) (w : World) (hn : n ≤ 1024) (hm : m ≤ 1024) (h : n ≠ m) :
    Calls Yba.prog 7 #[.slice ao n c, .slice bo m c'] w fun e w' => e = .returned (.bool false) ∧ w' = w := by
  have hb : ((n : Int) != (m : Int)) = true := by rw [bne_iff_ne]; omega
  clear h
  go_enter Yba.func7, Yba.ntmps7
  go_wp2
  go_ret
  exact ⟨rfl, rfl⟩

set_option maxHeartbeats 400000 in
theorem equal_none (ao bo : Option Addr) (c c' : Nat) (w : World) :
    Calls Yba.prog 7 #[.slice ao 0 c, .slice bo 0 c'] w fun e w' => e = .returned (.bool true) ∧ w' = w := by
  go_enter Yba.func7, Yba.ntmps7
  go_wp2_with fail
  go_loop [13] (fun i => i = .int .i64 0) (fun _ => 0)
  case atStart => rfl
  case round =>
    subst hrel
    go_wp2
    go_ret
    exact ⟨rfl, rfl⟩

set_option maxHeartbeats 1000000 in
theorem equal_row (b off b' off' n c c' : Nat) (ss tt : List ByteArray) (w : World) (hn : n ≤ 1024) (hpos : 0 < n) (h1 : ss.length = n) (h2 : tt.length = n)
    (c1 : ∀ j, j < n → w.cell? ⟨b, off + j, none⟩ = some (.string (ss.getD j ByteArray.empty))) (c2 : ∀ j, j < n → w.cell? ⟨b', off' + j, none⟩ = some (.string (tt.getD j ByteArray.empty))) :
    Calls Yba.prog 7 #[.slice (some ⟨b, off, none⟩) n c, .slice (some ⟨b', off', none⟩) n c'] w fun e w' => e = .returned (.bool (eqS ss tt)) ∧ ∃ q, w' = w.drewN q := by
  have C1 : Hid _ := c1
  have C2 : Hid _ := c2
  have H1 : Hid _ := h1
  have H2 : Hid _ := h2
  clear c1 c2 h1 h2
  go_enter Yba.func7, Yba.ntmps7
  go_wp2_with fail
  go_loopw [13, 5] (fun i _ wr => ∃ k q : Nat, k ≤ n ∧ i = .int .i64 k ∧ wr = w.drewN q ∧ ∀ j, j < k → (ss.getD j ByteArray.empty).toList = (tt.getD j ByteArray.empty).toList) (fun i _ _ => n - (intOf i).toNat)
  case atStart => exact ⟨0, 0, Nat.zero_le _, rfl, rfl, fun j hj => absurd hj (Nat.not_lt_zero _)⟩
  case round =>
    obtain ⟨k, q, hk, rfl, hwr, hpre⟩ := hrel
    have HP : Hid _ := hpre
    have HW : Hid _ := hwr
    clear hpre hwr
    by_cases hlt : k < n
    · have e1 : wr.cell? ⟨b, off + k, none⟩ = some (.string (ss.getD k ByteArray.empty)) := by rw [HW.out]; exact C1.out k hlt
      have e2 : wr.cell? ⟨b', off' + k, none⟩ = some (.string (tt.getD k ByteArray.empty)) := by rw [HW.out]; exact C2.out k hlt
      have k1 : (k : Int) < (n : Int) := by omega
      obtain ⟨x, hx⟩ : ∃ x, ss.getD k ByteArray.empty = x := ⟨_, rfl⟩
      obtain ⟨y, hy⟩ : ∃ y, tt.getD k ByteArray.empty = y := ⟨_, rfl⟩
      rw [hx] at e1
      rw [hy] at e2
      have HX : Hid _ := hx
      have HY : Hid _ := hy
      clear hx hy
      by_cases hxy : x.toList = y.toList
      · have hb : (x.toList == y.toList) = true := by simp [hxy]
        have HXY : Hid _ := hxy
        clear hxy
        go_wp2
        go_quiet (fail)
        go_wp2
        go_roundw
        case rel =>
          refine ⟨k + 1, q + nq, by omega, by go_num, by rw [HW.out, World.drewN_drewN], fun j hj => ?_⟩
          by_cases hjk : j < k
          · exact HP.out j hjk
          · obtain rfl : j = k := by omega
            rw [HX.out, HY.out]; exact HXY.out
        case measure => simp [intOf]; omega
      · have hb : (x.toList == y.toList) = false := by simp [hxy]
        have hfin : eqS ss tt = false := eqS_no (j := k) (by have := H1.out; omega) (by have := H2.out; omega) (by rw [HX.out, HY.out]; exact hxy)
        have HF : Hid _ := hfin
        clear hxy hfin
        go_wp2
        go_quiet (fail)
        go_wp2
        go_ret
        exact ⟨by rw [HF.out]; rfl, q + nq, by rw [HW.out, World.drewN_drewN]⟩
    · obtain rfl : k = n := by omega
      have hfin : eqS ss tt = true := eqS_yes (by rw [H1.out, H2.out]) (by rw [H1.out]; exact HP.out)
      have HF : Hid _ := hfin
      clear hfin
      go_wp2
      go_ret
      exact ⟨by rw [HF.out]; rfl, q, HW.out⟩

theorem equal_any (ao bo : Option Addr) (n m c c' : Nat) (ss tt : List ByteArray) (w : World) (h1 : Rd w ao n c ss) (h2 : Rd w bo m c' tt) (hn : n ≤ 1024) (hm : m ≤ 1024) :
    Calls Yba.prog 7 #[.slice ao n c, .slice bo m c'] w fun e w' => e = .returned (.bool (eqS ss tt)) ∧ ∃ q, w' = w.drewN q := by
  by_cases h : n = m
  · subst h
    by_cases h0 : n = 0
    · subst h0
      have q1 : ss = [] := List.eq_nil_of_length_eq_zero h1.2.1
      have q2 : tt = [] := List.eq_nil_of_length_eq_zero h2.2.1
      subst q1 q2
      rw [eqS_same]
      exact (equal_none ao bo c c' w).mono fun e w' ⟨a, b⟩ => ⟨a, 0, b⟩
    · cases ao with
      | none => exact absurd (h1.1 rfl).1 h0
      | some ad =>
        cases bo with
        | none => exact absurd (h2.1 rfl).1 h0
        | some bd =>
          obtain ⟨b, off, rfl, d1⟩ := h1.spot (by omega)
          obtain ⟨b', off', rfl, d2⟩ := h2.spot (by omega)
          exact equal_row b off b' off' n c c' ss tt w hn (by omega) h1.2.1 h2.2.1 d1 d2
  · rw [eqS_len (by rw [h1.2.1, h2.2.1]; exact h)]
    exact (equal_len ao bo n m c c' w hn hm h).mono fun e w' ⟨a, b⟩ => ⟨a, 0, b⟩

end Go.Proofs.Ybulkcjum

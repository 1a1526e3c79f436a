/-
  LawS4289AMatch: the walk.
-/
import Derived.Test.YbulkcjumAdds
namespace Go.Proofs.Ybulkcjum
open Go.RowKit
set_option linter.unusedVariables false

theorem Yba.info37 : (Yba.prog.info? 37).map (fun i => (i.zero, i.size, i.bytes)) = some (some (.pointer none), 1, 8) := by kernel_rfl

/-- One of the kinds of the law's two tables. -/
theorem vkind_at (vk : Int) (h0 : 0 ≤ vk) : ∃ V : Int, #[Value.int .u8 7, .int .u8 7, .int .u8 6, .int .u8 5, .int .u8 3, .int .u8 8][(vk % 6).toNat]? = some (.int .u8 V) := by
  rcases (show vk % 6 = 0 ∨ vk % 6 = 1 ∨ vk % 6 = 2 ∨ vk % 6 = 3 ∨ vk % 6 = 4 ∨ vk % 6 = 5 by omega) with h | h | h | h | h | h <;> rw [h] <;> exact ⟨_, rfl⟩
theorem ekind_at (ek : Int) (h0 : 0 ≤ ek) : ∃ E : Int, #[Value.int .u8 6, .int .u8 6, .int .u8 3, .int .u8 5, .int .u8 7][(ek % 5).toNat]? = some (.int .u8 E) := by
  rcases (show ek % 5 = 0 ∨ ek % 5 = 1 ∨ ek % 5 = 2 ∨ ek % 5 = 3 ∨ ek % 5 = 4 by omega) with h | h | h | h | h <;> rw [h] <;> exact ⟨_, rfl⟩

theorem eq_same (ao bo : Option Addr) (n c c' : Nat) (ss : List ByteArray) (w : World) (h1 : Rd w ao n c ss) (h2 : Rd w bo n c' ss) (hn : n ≤ 1024) :
    Calls Yba.prog 6 #[.slice ao n c, .slice bo n c'] w fun e w' => e = .returned (.bool true) ∧ ∃ q, w' = w.drewN q := by
  have := eq_any ao bo n n c c' ss ss w h1 h2 hn hn
  rwa [eqS_same] at this

theorem bal {a w : World} (h : Below a.heap.size a w) (o : Obj) : Below a.heap.size a (w.alloc o) := h.alloc h.size o

theorem rd_len {w : World} {ao : Option Addr} {n c : Nat} {ss tt : List ByteArray} (h1 : Rd w ao n c ss) : ss.length = n := h1.2.1

/-- What addsTo reads, put together: the parser, the reference and the first part lie below the parts' own row; the value has just been boxed. -/
theorem lies_mk {w4 W6 wr : World} {ge ec k n m rc pc : Nat} {V E : Int} {adds : Bool} {ra pa : Option Addr} {tt ss : List ByteArray} {x1 x2 x3 x4 x5 x6 x8 : Value}
    (f1 : W6.cell? ⟨w4.heap.size + 1 + 1, 7, none⟩ = some (.slice pa m pc)) (f2 : W6.cell? ⟨w4.heap.size + 1 + 1 + 1, 0, none⟩ = some (.slice ra n rc)) (f3 : W6.cell? ⟨w4.heap.size + 1 + 1 + 1, 4, none⟩ = some (.bool adds))
    (f4 : W6.cell? ⟨w4.heap.size + 1 + 1 + 1 + 1, 0, none⟩ = some (.int .u8 E)) (f5 : W6.cell? ⟨w4.heap.size + 1 + 1 + 1 + 1, 8, none⟩ = some (.pointer (some ⟨w4.heap.size + 1 + 1 + 1, 0, none⟩)))
    (b6 : Below w4.heap.size w4 W6) (hbel : Below (w4.heap.size + 5) W6 wr) (hsz : w4.heap.size + 6 ≤ wr.heap.size) (hge : ge < wr.heap.size)
    (hc0 : wr.cell? ⟨ge, 0, none⟩ = some (.pointer (some ⟨w4.heap.size + 1 + 1 + 1 + 1, 0, none⟩))) (hr : Rd w4 ra n rc tt) (hp : Rd w4 pa m pc ss) (hn : n ≤ 1024) (hm : m ≤ 1024) :
    Lies (w4.heap.size + 1 + 1) wr.heap.size ge (w4.heap.size + 1 + 1 + 1 + 1) (w4.heap.size + 1 + 1 + 1) (k + 1) ec V E adds ra pa n m rc pc tt ss (wr.alloc (.cells #[.int .u8 V, x1, x2, x3, x4, x5, x6, .slice (some ⟨ge, 0, none⟩) (k + 1) ec, x8] 47)) ∧
    Below w4.heap.size w4 (wr.alloc (.cells #[.int .u8 V, x1, x2, x3, x4, x5, x6, .slice (some ⟨ge, 0, none⟩) (k + 1) ec, x8] 47)) := by
  have a1 := bal (Below.refl _ wr) (.cells #[.int .u8 V, x1, x2, x3, x4, x5, x6, .slice (some ⟨ge, 0, none⟩) (k + 1) ec, x8] 47)
  have a2 : Below (w4.heap.size + 5) W6 (wr.alloc (.cells #[.int .u8 V, x1, x2, x3, x4, x5, x6, .slice (some ⟨ge, 0, none⟩) (k + 1) ec, x8] 47)) := hbel.trans (a1.mono (by omega))
  have a3 : Below w4.heap.size w4 (wr.alloc (.cells #[.int .u8 V, x1, x2, x3, x4, x5, x6, .slice (some ⟨ge, 0, none⟩) (k + 1) ec, x8] 47)) := b6.trans (a2.mono (by omega))
  refine ⟨⟨by simp, by simp, ?_, ?_, ?_, ?_, ?_, ?_, by omega, Rd.next hr a3, Rd.next hp a3, hn, hm⟩, a3⟩
  · rw [a1.cell (p := ⟨ge, 0, none⟩) hge]; exact hc0
  · rw [a2.cell (p := ⟨w4.heap.size + 1 + 1 + 1 + 1, 0, none⟩) (by show w4.heap.size + 1 + 1 + 1 + 1 < _; omega)]; exact f4
  · rw [a2.cell (p := ⟨w4.heap.size + 1 + 1 + 1 + 1, 8, none⟩) (by show w4.heap.size + 1 + 1 + 1 + 1 < _; omega)]; exact f5
  · rw [a2.cell (p := ⟨w4.heap.size + 1 + 1 + 1, 4, none⟩) (by show w4.heap.size + 1 + 1 + 1 < _; omega)]; exact f3
  · rw [a2.cell (p := ⟨w4.heap.size + 1 + 1 + 1, 0, none⟩) (by show w4.heap.size + 1 + 1 + 1 < _; omega)]; exact f2
  · rw [a2.cell (p := ⟨w4.heap.size + 1 + 1, 7, none⟩) (by show w4.heap.size + 1 + 1 < _; omega)]; exact f1

set_option maxHeartbeats 4000000 in
theorem law_same (po ro : Option Addr) (n m c c' : Nat) (ss tt : List ByteArray) (vk ek ex : Int) (adds : Bool) (w : World) (h1 : Rd w po n c ss) (h2 : Rd w ro m c' tt) (hn : n ≤ 1024) (hm : m ≤ 1024)
    (v0 : 0 ≤ vk) (v1 : vk ≤ 255) (k0 : 0 ≤ ek) (k1 : ek ≤ 255) (x0 : 0 ≤ ex) (x1 : ex ≤ 255) :
    Calls Yba.prog 3 #[.slice po n c, .slice ro m c', .bool true, .bool false, .int .u8 vk, .int .u8 ek, .bool adds, .int .u8 ex] w fun e w' => e = .returned (.bool true) ∧ Below w.heap.size w w' := by
  obtain ⟨i0, hi, hz0, hz1, hz2⟩ := info_parts Yba.info37
  obtain ⟨V, hV⟩ := vkind_at vk v0
  obtain ⟨E, hE⟩ := ekind_at ek k0
  have H1 : Hid _ := h1
  have H2 : Hid _ := h2
  clear h1 h2
  go_enter Yba.func3, Yba.ntmps3
  go_wp2_with fail
  refine (clone_any po n c ss _ H1.out hn).mono ?_
  rintro e w1 ⟨pa, pc, rfl, r1, hb1⟩
  have R1 : Hid _ := r1
  clear r1
  go_wp2_with fail
  refine (clone_any ro m c' tt _ (Rd.next H2.out hb1) hm).mono ?_
  rintro e w2 ⟨qa, qc, rfl, r2, hb2⟩
  have R2 : Hid _ := r2
  clear r2
  go_wp2_with fail
  refine (clone_any po n c ss _ (Rd.next (Rd.next H1.out hb1) hb2) hn).mono ?_
  rintro e w3 ⟨ra, rc, rfl, r3, hb3⟩
  have R3 : Hid _ := r3
  clear r3
  go_wp2_with fail
  refine (clone_any ra n rc ss _ R3.out hn).mono ?_
  rintro e w4 ⟨sa, sc, rfl, r4, hb4⟩
  have P4 : Rd w4 po n c ss := Rd.next (Rd.next (Rd.next (Rd.next H1.out hb1) hb2) hb3) hb4
  have Q4 : Rd w4 pa n pc ss := Rd.next (Rd.next (Rd.next R1.out hb2) hb3) hb4
  have T4 : Rd w4 ra n rc ss := Rd.next R3.out hb4
  have hbw : Below w.heap.size w w4 := hb1.trans ((hb2.trans ((hb3.trans (hb4.mono hb3.size)).mono hb2.size)).mono hb1.size)
  have HP : Hid _ := P4
  have HQ : Hid _ := Q4
  have HT : Hid _ := T4
  have HU : Hid _ := r4
  have HB : Hid _ := hbw
  clear P4 Q4 T4 r4 hbw hb1 hb2 hb3 hb4 H1 H2 R1 R2 R3
  go_wp2_with fail
  generalize hW : (((((w4.alloc (.cells #[.int .u8 7, .int .u8 7, .int .u8 6, .int .u8 5, .int .u8 3, .int .u8 8] 25)).alloc (.cells #[.int .u8 6, .int .u8 6, .int .u8 3, .int .u8 5, .int .u8 7] 26)).alloc (.cells #[.pointer none, .int .i64 0, .int .i64 0, .slice none 0 0, .slice none 0 0, .slice none 0 0, .pointer none, .slice pa n pc, .slice none 0 0, .int .i64 0, .int .i64 0, .int .i64 0, .bool false, .bool false, .nilIface] 36)).alloc (.cells #[.slice ra n rc, .int .i64 0, .slice none 0 0, .bool true, .bool adds] 40)).alloc (.cells #[.int .u8 E, .int .u16 0, .int .u32 0, .pointer none, .int .i64 0, .string ⟨#[43, 61]⟩, .pointer none, .slice none 0 0, .pointer (some ⟨w4.heap.size + 1 + 1 + 1, 0, none⟩)] 47)).alloc (.cells #[.pointer (some ⟨w4.heap.size + 1 + 1 + 1 + 1, 0, none⟩)] 37) = W6
  have own6 : W6.ownsRow (w4.heap.size + 5) 37 1 (.slice (some ⟨w4.heap.size + 1 + 1 + 1 + 1 + 1, 0, none⟩) 1 1) 1 [.pointer (some ⟨w4.heap.size + 1 + 1 + 1 + 1, 0, none⟩)] := by
    rw [← hW]
    refine ⟨rfl, .inr ⟨_, 1, #[.pointer (some ⟨w4.heap.size + 1 + 1 + 1 + 1, 0, none⟩)], rfl, by omega, ?_, Nat.le_refl _, by decide, rfl, rfl⟩⟩
    have := heap_alloc_new (((((w4.alloc (.cells #[.int .u8 7, .int .u8 7, .int .u8 6, .int .u8 5, .int .u8 3, .int .u8 8] 25)).alloc (.cells #[.int .u8 6, .int .u8 6, .int .u8 3, .int .u8 5, .int .u8 7] 26)).alloc (.cells #[.pointer none, .int .i64 0, .int .i64 0, .slice none 0 0, .slice none 0 0, .slice none 0 0, .pointer none, .slice pa n pc, .slice none 0 0, .int .i64 0, .int .i64 0, .int .i64 0, .bool false, .bool false, .nilIface] 36)).alloc (.cells #[.slice ra n rc, .int .i64 0, .slice none 0 0, .bool true, .bool adds] 40)).alloc (.cells #[.int .u8 E, .int .u16 0, .int .u32 0, .pointer none, .int .i64 0, .string ⟨#[43, 61]⟩, .pointer none, .slice none 0 0, .pointer (some ⟨w4.heap.size + 1 + 1 + 1, 0, none⟩)] 47)) (.cells #[.pointer (some ⟨w4.heap.size + 1 + 1 + 1 + 1, 0, none⟩)] 37)
    simpa using this
  have f1 : W6.cell? ⟨w4.heap.size + 1 + 1, 7, none⟩ = some (.slice pa n pc) := by rw [← hW]; simp [go_sem, World.cell?_alloc_past]
  have f2 : W6.cell? ⟨w4.heap.size + 1 + 1 + 1, 0, none⟩ = some (.slice ra n rc) := by rw [← hW]; simp [go_sem, World.cell?_alloc_past]
  have f3 : W6.cell? ⟨w4.heap.size + 1 + 1 + 1, 4, none⟩ = some (.bool adds) := by rw [← hW]; simp [go_sem, World.cell?_alloc_past]
  have f4 : W6.cell? ⟨w4.heap.size + 1 + 1 + 1 + 1, 0, none⟩ = some (.int .u8 E) := by rw [← hW]; simp [go_sem, World.cell?_alloc_past]
  have f5 : W6.cell? ⟨w4.heap.size + 1 + 1 + 1 + 1, 8, none⟩ = some (.pointer (some ⟨w4.heap.size + 1 + 1 + 1, 0, none⟩)) := by rw [← hW]; simp [go_sem, World.cell?_alloc_past]
  have sz6 : W6.heap.size = w4.heap.size + 6 := by rw [← hW]; simp
  have bel6 : Below w4.heap.size w4 W6 := by rw [← hW]; exact bal (bal (bal (bal (bal (bal (Below.refl _ _) _) _) _) _) _) _
  have F1 : Hid _ := f1
  have F2 : Hid _ := f2
  have F3 : Hid _ := f3
  have F4 : Hid _ := f4
  have F5 : Hid _ := f5
  have S6 : Hid _ := sz6
  have B6 : Hid _ := bel6
  have O6 : Hid _ := own6
  clear hW own6 f1 f2 f3 f4 f5 sz6 bel6 hV hE
  go_loopw [27, 28] (fun u i wr => ∃ (k : Nat) (xs : List Value), (k : Int) ≤ ex % 3 ∧ i = .int .i64 k ∧ wr.ownsRow (w4.heap.size + 5) 37 1 u (k + 1) (.pointer (some ⟨w4.heap.size + 1 + 1 + 1 + 1, 0, none⟩) :: xs) ∧ Below (w4.heap.size + 5) W6 wr) (fun _ i _ => 3 - (intOf i).toNat)
  case atStart => exact ⟨0, [], by omega, rfl, O6.out, Below.refl _ _⟩
  case round =>
    obtain ⟨k, xs, hk, rfl, hown, hbel⟩ := hrel
    have hsz : w4.heap.size + 6 ≤ wr.heap.size := by have h1 := hbel.size; have h2 := S6.out; omega
    by_cases hlt : (k : Int) < ex % 3
    · have HO : Hid _ := hown
      have HBL : Hid _ := hbel
      clear hown hbel
      go_wp2_with (at_builtin; refine wpList_append_keep _ rfl _ _ 30 rfl (w4.heap.size + 5) 37 i0 (.pointer none) 1 8 Yba.underlying30 hi hz0 hz1 hz2 rfl (by decide) _ (k + 1) (.pointer (some ⟨w4.heap.size + 1 + 1 + 1 + 1, 0, none⟩) :: xs) rfl ?own ⟨wr.heap.size + 1, 0, none⟩ 1 1 [.pointer (some ⟨wr.heap.size, 0, none⟩)] rfl rfl ?c1 ?c2 ?c3 ?c4 ?c5 ?_)
      case own => exact World.ownsRow.alloc (World.ownsRow.alloc HO.out _) _
      case c1 =>
        intro j u hj
        match j, hj with
        | 0, hj => simp at hj; subst hj; simp [Addr.add]
      case c2 => intro u hu; simp at hu; subst hu; rfl
      case c3 => unfold maxLen; omega
      case c4 => omega
      case c5 => simp; omega
      intro u' w7 ho _ hg
      have hb7 : Below (w4.heap.size + 5) W6 w7 := ((Below.alloc HBL.out (by omega) _).alloc (by simp; omega) _).grown hg (by simp; omega) (fun j hj => (World.ownsRow.lt HO.out j hj).1)
      have HO7 : Hid _ := ho
      have HB7 : Hid _ := hb7
      clear ho hg hb7
      go_wp2
      go_roundw
      case rel => exact ⟨k + 1, xs ++ [Value.pointer (some ⟨wr.heap.size, 0, none⟩)], by omega, by go_num, (HO7.out : w7.ownsRow (w4.heap.size + 5) 37 1 u' (k + 1 + 1) (Value.pointer (some ⟨w4.heap.size + 1 + 1 + 1 + 1, 0, none⟩) :: (xs ++ [Value.pointer (some ⟨wr.heap.size, 0, none⟩)]))), HB7.out⟩
      case measure => simp [intOf]; omega
    · obtain ⟨ge, ec, hu, hge, hge2, hkc, hcm, hc⟩ := own_shape hown (by omega)
      rw [hu]
      have hc0 := hc 0 (by omega)
      simp only [List.getElem?_cons_zero] at hc0
      have HC0 : Hid _ := hc0
      have HBL : Hid _ := hbel
      clear hc hc0 hbel hown hu
      obtain ⟨hL, hB8⟩ := lies_mk (k := k) (ec := ec) (V := V) (x1 := .int .u16 0) (x2 := .int .u32 0) (x3 := .pointer none) (x4 := .int .i64 0) (x5 := .string ByteArray.empty) (x6 := .pointer none) (x8 := .pointer none) F1.out F2.out F3.out F4.out F5.out B6.out HBL.out hsz hge2 HC0.out HT.out HQ.out hn hn
      have HL : Hid _ := hL
      have H8 : Hid _ := hB8
      clear hL hB8
      go_wp2_with fail
      refine (adds_any (w4.heap.size + 1 + 1) wr.heap.size ge (w4.heap.size + 1 + 1 + 1 + 1) (w4.heap.size + 1 + 1 + 1) (k + 1) ec V E adds ra pa n n rc pc ss ss _ HL.out).mono ?_
      rintro e w8 ⟨rfl, q, hw⟩
      have bw8 : Below w4.heap.size w4 w8 := by rw [hw]; exact below_drewN H8.out q
      clear hw
      by_cases hV : V = 7
      · subst hV
        by_cases hE : E = 6
        · subst hE
          cases adds with
          | false =>
            rw [show ans 7 6 false (eqS ss ss) = false from by simp [ans]]
            go_wp2_with fail
            refine (eq_same pa po n pc c ss _ (Rd.next HQ.out bw8) (Rd.next HP.out bw8) hn).mono ?_
            rintro e wf ⟨rfl, qwf, hw⟩
            have bwf : Below w4.heap.size w4 wf := by rw [hw]; exact below_drewN bw8 _
            clear hw
            go_wp2_with fail
            refine (eq_same ra sa n rc sc ss _ (Rd.next HT.out bwf) (Rd.next HU.out bwf) hn).mono ?_
            rintro e wg ⟨rfl, qwg, hw⟩
            have bwg : Below w4.heap.size w4 wg := by rw [hw]; exact below_drewN bwf _
            clear hw
            go_wp2
            go_ret
            exact ⟨rfl, HB.out.trans (bwg.mono HB.out.size)⟩
          | true =>
            rw [show ans 7 6 true (eqS ss ss) = true from by simp [ans, eqS_same]]
            go_wp2_with fail
            refine (eq_same sa po n sc c ss _ (Rd.next HU.out bw8) (Rd.next HP.out bw8) hn).mono ?_
            rintro e w9 ⟨rfl, qw9, hw⟩
            have bw9 : Below w4.heap.size w4 w9 := by rw [hw]; exact below_drewN bw8 _
            clear hw
            go_wp2_with fail
            refine (eq_same pa po n pc c ss _ (Rd.next HQ.out bw9) (Rd.next HP.out bw9) hn).mono ?_
            rintro e wf ⟨rfl, qwf, hw⟩
            have bwf : Below w4.heap.size w4 wf := by rw [hw]; exact below_drewN bw9 _
            clear hw
            go_wp2_with fail
            refine (eq_same ra sa n rc sc ss _ (Rd.next HT.out bwf) (Rd.next HU.out bwf) hn).mono ?_
            rintro e wg ⟨rfl, qwg, hw⟩
            have bwg : Below w4.heap.size w4 wg := by rw [hw]; exact below_drewN bwf _
            clear hw
            go_wp2
            go_ret
            exact ⟨rfl, HB.out.trans (bwg.mono HB.out.size)⟩
        · have hb : (E == 6) = false := by simp [hE]
          rw [show ans 7 E adds (eqS ss ss) = false from by simp [ans, hE]]
          clear hE
          go_wp2_with fail
          refine (eq_same pa po n pc c ss _ (Rd.next HQ.out bw8) (Rd.next HP.out bw8) hn).mono ?_
          rintro e wf ⟨rfl, qwf, hw⟩
          have bwf : Below w4.heap.size w4 wf := by rw [hw]; exact below_drewN bw8 _
          clear hw
          go_wp2_with fail
          refine (eq_same ra sa n rc sc ss _ (Rd.next HT.out bwf) (Rd.next HU.out bwf) hn).mono ?_
          rintro e wg ⟨rfl, qwg, hw⟩
          have bwg : Below w4.heap.size w4 wg := by rw [hw]; exact below_drewN bwf _
          clear hw
          go_wp2
          go_ret
          exact ⟨rfl, HB.out.trans (bwg.mono HB.out.size)⟩
      · have hb : (V == 7) = false := by simp [hV]
        rw [show ans V E adds (eqS ss ss) = false from by simp [ans, hV]]
        clear hV
        go_wp2_with fail
        refine (eq_same pa po n pc c ss _ (Rd.next HQ.out bw8) (Rd.next HP.out bw8) hn).mono ?_
        rintro e wf ⟨rfl, qwf, hw⟩
        have bwf : Below w4.heap.size w4 wf := by rw [hw]; exact below_drewN bw8 _
        clear hw
        go_wp2_with fail
        refine (eq_same ra sa n rc sc ss _ (Rd.next HT.out bwf) (Rd.next HU.out bwf) hn).mono ?_
        rintro e wg ⟨rfl, qwg, hw⟩
        have bwg : Below w4.heap.size w4 wg := by rw [hw]; exact below_drewN bwf _
        clear hw
        go_wp2
        go_ret
        exact ⟨rfl, HB.out.trans (bwg.mono HB.out.size)⟩

end Go.Proofs.Ybulkcjum

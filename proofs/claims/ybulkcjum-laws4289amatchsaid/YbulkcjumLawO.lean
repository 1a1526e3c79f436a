/-
  LawS4289AMatch: the walk.
-/
import Derived.Test.YbulkcjumLawS
namespace Go.Proofs.Ybulkcjum
open Go.RowKit
set_option linter.unusedVariables false

set_option maxHeartbeats 4000000 in
theorem law_other (po ro : Option Addr) (n m c c' : Nat) (ss tt : List ByteArray) (vk ek ex : Int) (adds : Bool) (w : World) (h1 : Rd w po n c ss) (h2 : Rd w ro m c' tt) (hn : n ≤ 1024) (hm : m ≤ 1024)
    (v0 : 0 ≤ vk) (v1 : vk ≤ 255) (k0 : 0 ≤ ek) (k1 : ek ≤ 255) (x0 : 0 ≤ ex) (x1 : ex ≤ 255) :
    Calls Yba.prog 3 #[.slice po n c, .slice ro m c', .bool false, .bool false, .int .u8 vk, .int .u8 ek, .bool adds, .int .u8 ex] w fun e w' => e = .returned (.bool true) ∧ Below w.heap.size w w' := by
  obtain ⟨i0, hi, hz0, hz1, hz2⟩ := info_parts Yba.info37
  obtain ⟨V, hV⟩ := vkind_at vk v0
  obtain ⟨E, hE⟩ := ekind_at ek k0
  have H1 : Hid _ := h1
  have H2 : Hid _ := h2
  clear h1 h2
  go_enter Yba.func3, Yba.ntmps3
  go_wp2_with fail
  refine (clone_any po n c ss _ H1.out hn).mono ?_
  rintro e w1 ⟨pa, pc, rfl, r1, hb1⟩
  have R1 : Hid _ := r1
  clear r1
  go_wp2_with fail
  refine (clone_any ro m c' tt _ (Rd.next H2.out hb1) hm).mono ?_
  rintro e w2 ⟨qa, qc, rfl, r2, hb2⟩
  have R2 : Hid _ := r2
  clear r2
  go_wp2_with fail
  refine (clone_any qa m qc tt _ R2.out hm).mono ?_
  rintro e w4 ⟨sa, sc, rfl, r4, hb4⟩
  have P4 : Rd w4 po n c ss := Rd.next (Rd.next (Rd.next H1.out hb1) hb2) hb4
  have Q4 : Rd w4 pa n pc ss := Rd.next (Rd.next R1.out hb2) hb4
  have T4 : Rd w4 qa m qc tt := Rd.next R2.out hb4
  have hbw : Below w.heap.size w w4 := hb1.trans ((hb2.trans (hb4.mono hb2.size)).mono hb1.size)
  have HP : Hid _ := P4
  have HQ : Hid _ := Q4
  have HT : Hid _ := T4
  have HU : Hid _ := r4
  have HB : Hid _ := hbw
  clear P4 Q4 T4 r4 hbw hb1 hb2 hb4 H1 H2 R1 R2
  go_wp2_with fail
  generalize hW : (((((w4.alloc (.cells #[.int .u8 7, .int .u8 7, .int .u8 6, .int .u8 5, .int .u8 3, .int .u8 8] 25)).alloc (.cells #[.int .u8 6, .int .u8 6, .int .u8 3, .int .u8 5, .int .u8 7] 26)).alloc (.cells #[.pointer none, .int .i64 0, .int .i64 0, .slice none 0 0, .slice none 0 0, .slice none 0 0, .pointer none, .slice pa n pc, .slice none 0 0, .int .i64 0, .int .i64 0, .int .i64 0, .bool false, .bool false, .nilIface] 36)).alloc (.cells #[.slice qa m qc, .int .i64 0, .slice none 0 0, .bool true, .bool adds] 40)).alloc (.cells #[.int .u8 E, .int .u16 0, .int .u32 0, .pointer none, .int .i64 0, .string ⟨#[43, 61]⟩, .pointer none, .slice none 0 0, .pointer (some ⟨w4.heap.size + 1 + 1 + 1, 0, none⟩)] 47)).alloc (.cells #[.pointer (some ⟨w4.heap.size + 1 + 1 + 1 + 1, 0, none⟩)] 37) = W6
  have own6 : W6.ownsRow (w4.heap.size + 5) 37 1 (.slice (some ⟨w4.heap.size + 1 + 1 + 1 + 1 + 1, 0, none⟩) 1 1) 1 [.pointer (some ⟨w4.heap.size + 1 + 1 + 1 + 1, 0, none⟩)] := by
    rw [← hW]
    refine ⟨rfl, .inr ⟨_, 1, #[.pointer (some ⟨w4.heap.size + 1 + 1 + 1 + 1, 0, none⟩)], rfl, by omega, ?_, Nat.le_refl _, by decide, rfl, rfl⟩⟩
    have := heap_alloc_new (((((w4.alloc (.cells #[.int .u8 7, .int .u8 7, .int .u8 6, .int .u8 5, .int .u8 3, .int .u8 8] 25)).alloc (.cells #[.int .u8 6, .int .u8 6, .int .u8 3, .int .u8 5, .int .u8 7] 26)).alloc (.cells #[.pointer none, .int .i64 0, .int .i64 0, .slice none 0 0, .slice none 0 0, .slice none 0 0, .pointer none, .slice pa n pc, .slice none 0 0, .int .i64 0, .int .i64 0, .int .i64 0, .bool false, .bool false, .nilIface] 36)).alloc (.cells #[.slice qa m qc, .int .i64 0, .slice none 0 0, .bool true, .bool adds] 40)).alloc (.cells #[.int .u8 E, .int .u16 0, .int .u32 0, .pointer none, .int .i64 0, .string ⟨#[43, 61]⟩, .pointer none, .slice none 0 0, .pointer (some ⟨w4.heap.size + 1 + 1 + 1, 0, none⟩)] 47)) (.cells #[.pointer (some ⟨w4.heap.size + 1 + 1 + 1 + 1, 0, none⟩)] 37)
    simpa using this
  have f1 : W6.cell? ⟨w4.heap.size + 1 + 1, 7, none⟩ = some (.slice pa n pc) := by rw [← hW]; simp [go_sem, World.cell?_alloc_past]
  have f2 : W6.cell? ⟨w4.heap.size + 1 + 1 + 1, 0, none⟩ = some (.slice qa m qc) := by rw [← hW]; simp [go_sem, World.cell?_alloc_past]
  have f3 : W6.cell? ⟨w4.heap.size + 1 + 1 + 1, 4, none⟩ = some (.bool adds) := by rw [← hW]; simp [go_sem, World.cell?_alloc_past]
  have f4 : W6.cell? ⟨w4.heap.size + 1 + 1 + 1 + 1, 0, none⟩ = some (.int .u8 E) := by rw [← hW]; simp [go_sem, World.cell?_alloc_past]
  have f5 : W6.cell? ⟨w4.heap.size + 1 + 1 + 1 + 1, 8, none⟩ = some (.pointer (some ⟨w4.heap.size + 1 + 1 + 1, 0, none⟩)) := by rw [← hW]; simp [go_sem, World.cell?_alloc_past]
  have sz6 : W6.heap.size = w4.heap.size + 6 := by rw [← hW]; simp
  have bel6 : Below w4.heap.size w4 W6 := by rw [← hW]; exact bal (bal (bal (bal (bal (bal (Below.refl _ _) _) _) _) _) _) _
  have F1 : Hid _ := f1
  have F2 : Hid _ := f2
  have F3 : Hid _ := f3
  have F4 : Hid _ := f4
  have F5 : Hid _ := f5
  have S6 : Hid _ := sz6
  have B6 : Hid _ := bel6
  have O6 : Hid _ := own6
  clear hW own6 f1 f2 f3 f4 f5 sz6 bel6 hV hE
  go_loopw [27, 28] (fun u i wr => ∃ (k : Nat) (xs : List Value), (k : Int) ≤ ex % 3 ∧ i = .int .i64 k ∧ wr.ownsRow (w4.heap.size + 5) 37 1 u (k + 1) (.pointer (some ⟨w4.heap.size + 1 + 1 + 1 + 1, 0, none⟩) :: xs) ∧ Below (w4.heap.size + 5) W6 wr) (fun _ i _ => 3 - (intOf i).toNat)
  case atStart => exact ⟨0, [], by omega, rfl, O6.out, Below.refl _ _⟩
  case round =>
    obtain ⟨k, xs, hk, rfl, hown, hbel⟩ := hrel
    have hsz : w4.heap.size + 6 ≤ wr.heap.size := by have h1 := hbel.size; have h2 := S6.out; omega
    by_cases hlt : (k : Int) < ex % 3
    · have HO : Hid _ := hown
      have HBL : Hid _ := hbel
      clear hown hbel
      go_wp2_with (at_builtin; refine wpList_append_keep _ rfl _ _ 30 rfl (w4.heap.size + 5) 37 i0 (.pointer none) 1 8 Yba.underlying30 hi hz0 hz1 hz2 rfl (by decide) _ (k + 1) (.pointer (some ⟨w4.heap.size + 1 + 1 + 1 + 1, 0, none⟩) :: xs) rfl ?own ⟨wr.heap.size + 1, 0, none⟩ 1 1 [.pointer (some ⟨wr.heap.size, 0, none⟩)] rfl rfl ?c1 ?c2 ?c3 ?c4 ?c5 ?_)
      case own => exact World.ownsRow.alloc (World.ownsRow.alloc HO.out _) _
      case c1 =>
        intro j u hj
        match j, hj with
        | 0, hj => simp at hj; subst hj; simp [Addr.add]
      case c2 => intro u hu; simp at hu; subst hu; rfl
      case c3 => unfold maxLen; omega
      case c4 => omega
      case c5 => simp; omega
      intro u' w7 ho _ hg
      have hb7 : Below (w4.heap.size + 5) W6 w7 := ((Below.alloc HBL.out (by omega) _).alloc (by simp; omega) _).grown hg (by simp; omega) (fun j hj => (World.ownsRow.lt HO.out j hj).1)
      have HO7 : Hid _ := ho
      have HB7 : Hid _ := hb7
      clear ho hg hb7
      go_wp2
      go_roundw
      case rel => exact ⟨k + 1, xs ++ [Value.pointer (some ⟨wr.heap.size, 0, none⟩)], by omega, by go_num, (HO7.out : w7.ownsRow (w4.heap.size + 5) 37 1 u' (k + 1 + 1) (Value.pointer (some ⟨w4.heap.size + 1 + 1 + 1 + 1, 0, none⟩) :: (xs ++ [Value.pointer (some ⟨wr.heap.size, 0, none⟩)]))), HB7.out⟩
      case measure => simp [intOf]; omega
    · obtain ⟨ge, ec, hu, hge, hge2, hkc, hcm, hc⟩ := own_shape hown (by omega)
      rw [hu]
      have hc0 := hc 0 (by omega)
      simp only [List.getElem?_cons_zero] at hc0
      have HC0 : Hid _ := hc0
      have HBL : Hid _ := hbel
      clear hc hc0 hbel hown hu
      obtain ⟨hL, hB8⟩ := lies_mk (k := k) (ec := ec) (V := V) (x1 := .int .u16 0) (x2 := .int .u32 0) (x3 := .pointer none) (x4 := .int .i64 0) (x5 := .string ByteArray.empty) (x6 := .pointer none) (x8 := .pointer none) F1.out F2.out F3.out F4.out F5.out B6.out HBL.out hsz hge2 HC0.out HT.out HQ.out hm hn
      have HL : Hid _ := hL
      have H8 : Hid _ := hB8
      clear hL hB8
      go_wp2_with fail
      refine (adds_any (w4.heap.size + 1 + 1) wr.heap.size ge (w4.heap.size + 1 + 1 + 1 + 1) (w4.heap.size + 1 + 1 + 1) (k + 1) ec V E adds qa pa m n qc pc tt ss _ HL.out).mono ?_
      rintro e w8 ⟨rfl, q, hw⟩
      have bw8 : Below w4.heap.size w4 w8 := by rw [hw]; exact below_drewN H8.out q
      clear hw
      by_cases hV : V = 7
      · subst hV
        by_cases hE : E = 6
        · subst hE
          cases adds with
          | false =>
            rw [show ans 7 6 false (eqS tt ss) = false from by simp [ans]]
            go_wp2_with fail
            refine (eq_same pa po n pc c ss _ (Rd.next HQ.out bw8) (Rd.next HP.out bw8) hn).mono ?_
            rintro e wf ⟨rfl, qwf, hw⟩
            have bwf : Below w4.heap.size w4 wf := by rw [hw]; exact below_drewN bw8 _
            clear hw
            go_wp2_with fail
            refine (eq_same qa sa m qc sc tt _ (Rd.next HT.out bwf) (Rd.next HU.out bwf) hm).mono ?_
            rintro e wg ⟨rfl, qwg, hw⟩
            have bwg : Below w4.heap.size w4 wg := by rw [hw]; exact below_drewN bwf _
            clear hw
            go_wp2
            go_ret
            exact ⟨rfl, HB.out.trans (bwg.mono HB.out.size)⟩
          | true =>
            rw [show ans 7 6 true (eqS tt ss) = eqS tt ss from by simp [ans]]
            have HR := eq_any sa po m n sc c tt ss w8 (Rd.next HU.out bw8) (Rd.next HP.out bw8) hm hn
            generalize eqS tt ss = Q at HR ⊢
            have HR' : Hid _ := HR
            clear HR
            go_wp2_with fail
            refine (show Calls Yba.prog 6 #[.slice sa m sc, .slice po n c] w8 (fun e w' => e = .returned (.bool Q) ∧ ∃ q, w' = w8.drewN q) from HR'.out).mono ?_
            rintro e w9 ⟨rfl, qw9, hw⟩
            have bw9 : Below w4.heap.size w4 w9 := by rw [hw]; exact below_drewN bw8 _
            clear hw
            go_wp2_with fail
            refine (eq_same pa po n pc c ss _ (Rd.next HQ.out bw9) (Rd.next HP.out bw9) hn).mono ?_
            rintro e wf ⟨rfl, qwf, hw⟩
            have bwf : Below w4.heap.size w4 wf := by rw [hw]; exact below_drewN bw9 _
            clear hw
            go_wp2_with fail
            refine (eq_same qa sa m qc sc tt _ (Rd.next HT.out bwf) (Rd.next HU.out bwf) hm).mono ?_
            rintro e wg ⟨rfl, qwg, hw⟩
            have bwg : Below w4.heap.size w4 wg := by rw [hw]; exact below_drewN bwf _
            clear hw
            go_wp2
            go_ret
            exact ⟨rfl, HB.out.trans (bwg.mono HB.out.size)⟩
        · have hb : (E == 6) = false := by simp [hE]
          rw [show ans 7 E adds (eqS tt ss) = false from by simp [ans, hE]]
          clear hE
          go_wp2_with fail
          refine (eq_same pa po n pc c ss _ (Rd.next HQ.out bw8) (Rd.next HP.out bw8) hn).mono ?_
          rintro e wf ⟨rfl, qwf, hw⟩
          have bwf : Below w4.heap.size w4 wf := by rw [hw]; exact below_drewN bw8 _
          clear hw
          go_wp2_with fail
          refine (eq_same qa sa m qc sc tt _ (Rd.next HT.out bwf) (Rd.next HU.out bwf) hm).mono ?_
          rintro e wg ⟨rfl, qwg, hw⟩
          have bwg : Below w4.heap.size w4 wg := by rw [hw]; exact below_drewN bwf _
          clear hw
          go_wp2
          go_ret
          exact ⟨rfl, HB.out.trans (bwg.mono HB.out.size)⟩
      · have hb : (V == 7) = false := by simp [hV]
        rw [show ans V E adds (eqS tt ss) = false from by simp [ans, hV]]
        clear hV
        go_wp2_with fail
        refine (eq_same pa po n pc c ss _ (Rd.next HQ.out bw8) (Rd.next HP.out bw8) hn).mono ?_
        rintro e wf ⟨rfl, qwf, hw⟩
        have bwf : Below w4.heap.size w4 wf := by rw [hw]; exact below_drewN bw8 _
        clear hw
        go_wp2_with fail
        refine (eq_same qa sa m qc sc tt _ (Rd.next HT.out bwf) (Rd.next HU.out bwf) hm).mono ?_
        rintro e wg ⟨rfl, qwg, hw⟩
        have bwg : Below w4.heap.size w4 wg := by rw [hw]; exact below_drewN bwf _
        clear hw
        go_wp2
        go_ret
        exact ⟨rfl, HB.out.trans (bwg.mono HB.out.size)⟩

end Go.Proofs.Ybulkcjum

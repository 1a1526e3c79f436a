/-
  'Rows.LawS4291AModelSaid', and its tied card.
-/
import Derived.Test.YbulkcjvoDoorRows
import Derived.Test.YbulkcjvoDoorTie
import Derived.Test.YbulkcjvoDoorCards
import Derived.Test.YbulkcjvoDoorModel
import Derived.WalkKit
import Derived.ProofKit
import Derived.OpenShut
import Derived.ChangeOld
import Derived.Below
import Derived.LaidMore
import Derived.LaidHandle
import Derived.Stop.LaidErr
import Derived.Stop.Joined
import Derived.SevenTiedAt
namespace Go.Proofs.YbulkcjvoDoor.lawS4291AModel
open Go.ChangeShapes Go.WideShapes Go.ChangeAt Go.RowKit
set_option linter.unusedVariables false

theorem own : ownKnob Ybad.prog.godebug = none := by kernel_rfl
theorem laidOut : laidOutB Ybad.prog = true := by kernel_rfl
theorem gEof : Ybad.prog.globalNamed "io.EOF" = some 0 := by kernel_rfl
theorem tEof : (Ybad.prog.globals[0]?).map (·.type) = some 24 := by kernel_rfl
theorem star : "*" ++ "errors.errorString" = "*errors.errorString" := by decide
theorem row36 (u : TypeId) (h : Ybad.prog.typeName? 3 u = some "*errors.errorString") : u = 36 :=
  typeName_ptr_named (nm := "errors.errorString") (by rw [star]; kernel_rfl) (by kernel_rfl) (by decide) u (by rw [star]; exact h)
theorem cells38 : Ybad.prog.cellsOf 38 = 1 := by kernel_rfl
theorem cells9 : Ybad.prog.cellsOf 9 = 1 := by kernel_rfl

theorem gUn : Ybad.prog.globalNamed "io.ErrUnexpectedEOF" = some 1 := by kernel_rfl
theorem tUn : (Ybad.prog.globals[1]?).map (·.type) = some 24 := by kernel_rfl

/-- What the condition on the listed variables gives the walk: the two errors, which are not one. -/
theorem of_laid {W : World} (h0 : laidMetH Ybad.prog Rows.lawS4291AModelRow.laid W) : ∃ a0 a1, Sent a0 a1 W := by
  rw [MakeChecks.laidMetH_plain _ _ _ (by kernel_rfl)] at h0
  have h : laidMet Ybad.prog [("io.EOF", Rows.laid_io_EOF), ("io.ErrUnexpectedEOF", Rows.laid_io_ErrUnexpectedEOF)] W := laidMet.tail h0
  obtain ⟨ps, ⟨g0, t0, cs0, f0, p0, q0, hg0, ht0, hv0, hd0, ⟨g1, t1, cs1, f1, p1, q1, hg1, ht1, hv1, hd1, hq1, e1⟩, e0⟩, hnd, hrows⟩ := h
  obtain rfl := Option.some.inj (gEof.symm.trans hg0)
  obtain rfl := Option.some.inj (gUn.symm.trans hg1)
  obtain rfl := Option.some.inj (tEof.symm.trans ht0)
  obtain rfl := Option.some.inj (tUn.symm.trans ht1)
  have hq1' : q1 = [] := hq1
  subst hq1'
  subst e1
  subst e0
  obtain ⟨l0⟩ := cs0
  obtain ⟨l1⟩ := cs1
  have ok0 : ∀ u v, l0 = [.iface u v] → Value.okWide Ybad.prog W .any 0 u v := fun u v e => by
    subst e
    exact (hrows 0 0 (by simp [MemPlace.row])).2 u v (by simpa using World.var?_cell hg0 hv0 0)
  have ok1 : ∀ u v, l1 = [.iface u v] → Value.okWide Ybad.prog W .any 0 u v := fun u v e => by
    subst e
    exact (hrows 1 0 (by simp [MemPlace.row])).2 u v (by simpa using World.var?_cell hg1 hv1 0)
  obtain ⟨a0, s0, rfl, hc0, hs0, hz0, rfl⟩ := errorString_of_trod Ybad.underlying24 row36 Ybad.underlying36 Ybad.underlying38 rfl rfl Ybad.underlying9 cells38 cells9 hd0 ok0
  obtain ⟨a1, s1, rfl, hc1, hs1, hz1, rfl⟩ := errorString_of_trod Ybad.underlying24 row36 Ybad.underlying36 Ybad.underlying38 rfl rfl Ybad.underlying9 cells38 cells9 hd1 ok1
  obtain ⟨c0, t0, hb0⟩ := (hrows a0.block a0.off (by simp [MemPlace.row])).1
  obtain ⟨c1, t1, hb1⟩ := (hrows a1.block a1.off (by simp [MemPlace.row])).1
  refine ⟨a0, a1, by simpa using World.var?_cell gEof hv0 0, by simpa using World.var?_cell gUn hv1 0, ⟨c0, t0, hb0⟩, ⟨c1, t1, hb1⟩, ?_⟩
  rintro rfl
  simp [MemPlace.row] at hnd

/-- The door's own heap meets the condition. -/
theorem door_met (os : Os) (args : Array Value) : laidMetH Ybad.prog Rows.lawS4291AModelRow.laid ((World.doorLaid Ybad.prog 66 os).forCall (fun _ _ => 0) ⟨#[], args, []⟩).memory :=
  laidMetH_of_parts3 (fuel := 8) (laidMet_of_run' 8 (by kernel_rfl) (by kernel_rfl)) (by kernel_rfl) (by kernel_rfl)

theorem in_of_ints {W : World} {x : Addr} {len cap : Nat} {zs : List Int} (hl : len ≤ cap) (hz : zs.length = cap) (hcell : ∀ i, i < zs.length → W.cell? (x.add i) = some (.int .u8 (zs.getD i 0))) : In W (some x) len cap (zs.take len) := by
  refine ⟨fun h => (by cases h), by simp; omega, fun ad had j hj => ?_⟩
  obtain rfl := Option.some.inj had
  rw [hcell j (by omega)]
  simp [List.getD_eq_getElem?_getD, hj]

theorem walk (stepb : Int) (d : Option Addr) (dn dc : Nat) (dz : List Int) (fail : Bool) (a0 a1 : Addr) (w : World) (hS : Sent a0 a1 w) (hI : In w d dn dc dz) (hle : dn ≤ dc) (hcap : dc ≤ maxLen) (hby : ∀ z ∈ dz, 0 ≤ z ∧ z < 256) (s0 : 0 ≤ stepb) (s1 : stepb ≤ 255) :
    Calls Ybad.prog 3 #[.slice d dn dc, .int .u8 stepb, .bool fail] w fun e w' => e = .returned (.bool true) ∧ Below w.heap.size w w' := by
  cases fail
  · exact model_any_F stepb d dn dc dz a0 a1 w hS hI hle hcap hby s0 s1
  · exact model_any_T stepb d dn dc dz a0 a1 w hS hI hle hcap hby s0 s1

theorem byte_bounds {z : Int} (h : (Lit.int .u8 z).wf = true) : 0 ≤ z ∧ z < 256 := by
  obtain ⟨h1, h2⟩ := bounds_u8 h
  omega

set_option maxRecDepth 100000 in
theorem lifted (os : Os) (started : os.Started) (H : Type) (enc : TypeId × Value → H) :
    ReturnsInHanded {} Ybad.checked os 3 .any (fun w args => (Rows.lawS4291AModelSpec.pre enc Ybad.prog Ybad.f3 [] false w args ∧ laidMetH Ybad.prog Rows.lawS4291AModelRow.laid w) ∧ sizedMet enc Ybad.prog Ybad.f3 (OpenSpec.ofChange Rows.lawS4291AModelSpec) false w args)
      (Rows.lawS4291AModelSpec.post enc Ybad.prog Ybad.f3 false true false false) := by
  refine returnsInHanded_of_change_and (C := Ybad.checked) (X := fun w _ => laidMetH Ybad.prog Rows.lawS4291AModelRow.laid w) (fun _ _ _ hh h => h.of_heap hh) own started (by kernel_rfl) Ybad.func3
    (ChangeSpec.witness_shaped (enc := enc) (C := Ybad.checked) (os := os) (X := fun w _ => laidMetH Ybad.prog Rows.lawS4291AModelRow.laid w) false (World.doorLaid Ybad.prog 66 os) #[.slice none 0 0, .int .u8 0, .bool false] 8 rfl (World.shaped_of_RefB (by kernel_rfl) (by kernel_rfl)) (by kernel_rfl) (by kernel_rfl) (by kernel_rfl) (door_met os _)) ?_
  intro W base args ds gs before hval0 hW _ _ hL _
  have hval : ∀ (j : Nat) t v, Ybad.f3.params[j]? = some t → args[j]? = some v → Value.okWide Ybad.prog W .any base t v := hval0
  have hW' := hW
  obtain ⟨p, q, hA0, hV, rfl, hfz, hnd⟩ := hW
  have hA : DataW.TrodAll enc Ybad.prog W 0 (fun _ => true) true Ybad.f3.params.toList args.toList ds p := hA0
  rw [Ybad.params3] at hA hval
  obtain ⟨v0, vs0, d0, ds0, p0, q0, hargs, rfl, rfl, h0, r0⟩ := trodAll_cons hA
  obtain ⟨v1, vs1, d1, ds1, p1, q1, rfl, rfl, rfl, h1, r1⟩ := trodAll_cons r0
  obtain ⟨v2, vs2, d2, ds2, p2, q2, rfl, rfl, rfl, h2, r2⟩ := trodAll_cons r1
  obtain ⟨rfl, rfl, rfl⟩ := trodAll_nil r2
  obtain rfl : args = #[v0, v1, v2] := by cases args; simp_all
  obtain ⟨rfl, rfl⟩ := trodVars_none hV
  obtain ⟨a0, len0, cap0, rfl⟩ := okWide_slice Ybad.underlying22 (hval 0 22 v0 rfl rfl)
  have k0 := h0
  have lt0 : ∀ x ∈ p0, x.block < W.heap.size := by obtain ⟨m, hm⟩ := k0; exact DataW.trod_lt m _ _ _ hm
  obtain ⟨z0, w0, l0, m0, y0⟩ : ∃ zs, In W a0 len0 cap0 zs ∧ len0 ≤ cap0 ∧ cap0 ≤ maxLen ∧ ∀ z ∈ zs, 0 ≤ z ∧ z < 256 := by
    obtain ⟨fuel, hf⟩ := h0
    rcases open_ints Ybad.underlying22 Ybad.underlying5 (by kernel_rfl) hf with ⟨hcs, _⟩ | ⟨x, l, c, zs, hcs, _, hl, hm, hz, _, hcell, hwz⟩
    · simp [Value.cells] at hcs
      obtain ⟨rfl, rfl, rfl⟩ := hcs
      exact ⟨[], ⟨fun _ => ⟨rfl, rfl⟩, rfl, fun ad h => (by cases h)⟩, Nat.le_refl _, Nat.zero_le _, fun z hz => (by cases hz)⟩
    · simp [Value.cells] at hcs
      obtain ⟨rfl, rfl, rfl⟩ := hcs
      exact ⟨_, in_of_ints hl (by simpa using hz) hcell, hl, hm, fun z hz => byte_bounds (hwz z (List.mem_of_mem_take hz))⟩
  obtain ⟨a1, rfl, rfl, rfl, w1⟩ := open_int Ybad.underlying5 (hval 1 5 v1 rfl rfl) h1
  obtain ⟨a2, rfl, rfl, rfl⟩ := open_bool Ybad.underlying4 (hval 2 4 v2 rfl rfl) h2
  clear hA0 hval0
  obtain ⟨e0, e1, hS⟩ := of_laid hL
  obtain ⟨g1, g1'⟩ := bounds_u8 w1
  refine (walk a1 a0 len0 cap0 z0 a2 e0 e1 W hS w0 l0 m0 y0 g1 (by omega)).mono fun e W' ⟨he, bel⟩ => ?_
  subst he
  exact ⟨_, rfl, _, _, _, [], _, [], hW', trodAll_mk1 (shut_bool Ybad.underlying4 _), (trodAll_cons_mk (Below.trod laidOut (by kernel_rfl) (of_decide_eq_true (by kernel_rfl)) k0 bel lt0) (trodAll_cons_mk (shut_int Ybad.underlying5 w1) (trodAll_cons_mk (shut_bool Ybad.underlying4 _) trodAll_mk0))), rfl, bel.frame _, fun h => by cases h⟩

theorem over : Rows.LawS4291AModelSaid :=
  OpenClaim.holds_of_wide 3 Ybad.f3 rfl rfl rfl rfl rfl rfl rfl ⟨rfl, rfl, rfl, rfl, rfl⟩ rfl rfl rfl rfl rfl (by kernel_rfl) Ybad.func3 (by kernel_rfl)
    (of_decide_eq_true (by kernel_rfl)) (by unfold Func.isWrapper; first | (rw [if_pos (by decide +kernel)]; kernel_rfl) | (rw [if_neg (by decide +kernel)]; exact ⟨rfl, rfl⟩))
    (fun os started H enc _ => lifted os started H enc)

/-- ████ THE STATEMENT: THE TIED CARD ████ -/
theorem proved : Rows.LawS4291AModelCardSaid :=
  Claim7.holds_tied_plain_at .later [] [.sentinel, .sentinel, .sentinel] true (true, "df6f6dd15917b0219b3837267d50013874d71bcb1978f06f544416fd7689d098") true
    over (fun _ h => by cases h) (by kernel_rfl) (fun _ h => by cases h) lawS4291AModel_row_tie rfl ⟨rfl, rfl⟩ (by kernel_rfl) rfl
    (fun f fn hf hfn => by
      obtain rfl : f = 3 := Option.some.inj ((show Ybad.prog.funcNamed "example.com/roamkey/roamkey/link.LawS4291AModel" = some 3 by kernel_rfl).symm.trans hf) |>.symm
      obtain rfl : fn = Ybad.f3 := (Option.some.inj (Ybad.func3.symm.trans hfn)).symm
      exact ⟨by kernel_rfl, fun j t ht => by
        rw [Ybad.params3] at ht
        have h4 : t = 22 ∨ t = 5 ∨ t = 4 := by
          rcases j with _ | _ | _ | j
          · simp at ht; exact .inl ht.symm
          · simp at ht; exact .inr (.inl ht.symm)
          · simp at ht; exact .inr (.inr ht.symm)
          · simp at ht
        rcases h4 with rfl | rfl | rfl
        · exact (show Ybad.prog.wantsStandIn 22 = false by kernel_rfl)
        · exact (show Ybad.prog.wantsStandIn 5 = false by kernel_rfl)
        · exact (show Ybad.prog.wantsStandIn 4 = false by kernel_rfl)⟩)
    (by kernel_rfl)
#print axioms proved
end Go.Proofs.YbulkcjvoDoor.lawS4291AModel

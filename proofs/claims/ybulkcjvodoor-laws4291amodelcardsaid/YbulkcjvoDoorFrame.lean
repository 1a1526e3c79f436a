/-
  LawS4291AFrame.
-/
import Derived.Test.YbulkcjvoDoorEq
import Derived.Test.YbulkcjvoDoorKeep
import Derived.Lib.JoinLaws
import Derived.Laws.Cover3
namespace Go.Proofs.YbulkcjvoDoor
open Go.RowKit
set_option linter.unusedVariables false

/-- A slice that came in: nil, or its bytes. -/
structure In (w : World) (ao : Option Addr) (n c : Nat) (zs : List Int) : Prop where
  nil : ao = none → n = 0 ∧ c = 0
  len : zs.length = n
  cell : ∀ ad, ao = some ad → ∀ j, j < n → w.cell? (ad.add j) = some (.int .u8 (zs.getD j 0))

theorem make_room (c : Nat) (h : c ≤ 200000) (W : World) : (Instr.makeSlice 22 (.int .i64 0) (.int .i64 (c : Int))).run Ybad.prog W = .ok (.slice (some ⟨W.heap.size, 0, none⟩) 0 c) (W.alloc (.cells (madeCells #[.int .u8 0] c) 5)) :=
  run_make_room 22 5 (.int .u8 0) 1 Ybad.underlying22 (by kernel_rfl) rfl .i64 .i64 c (by omega) (by omega) W

theorem info5 : (Ybad.prog.info? 5).map (fun i => (i.zero, i.size, i.bytes)) = some (some (.int .u8 0), 1, 1) := by kernel_rfl
theorem info_parts {P : Program} {e : TypeId} {z : Value} {s b : Nat} (h : (P.info? e).map (fun i => (i.zero, i.size, i.bytes)) = some (some z, s, b)) : ∃ i, P.info? e = some i ∧ i.zero = some z ∧ i.size = s ∧ i.bytes = b := by
  obtain ⟨i, hi, hzz⟩ := Option.map_eq_some_iff.1 h
  simp only [Prod.mk.injEq] at hzz
  exact ⟨i, hi, hzz.1, hzz.2.1, hzz.2.2⟩

theorem alloc_cells (W : World) (cs : List Value) (T : TypeId) (b : Nat) (hb : b = W.heap.size) : ∀ j u, cs[j]? = some u → (W.alloc (.cells cs.toArray T)).cell? ((⟨b, 0, none⟩ : Addr).add j) = some u := by
  intro j u hj
  subst hb
  rw [Addr.add_lit, Nat.zero_add, (own_block (heap_alloc_new W _)).1 j]
  simpa using hj

/-- The cells of a slice that came in, as the source of an append. -/
theorem In.src {w w' : World} {ao : Option Addr} {n c : Nat} {zs : List Int} (h : In w ao n c zs) (hb : Below w.heap.size w w') : ∀ ad, ao = some ad → ∀ j u, (zs.map (Value.int .u8))[j]? = some u → w'.cell? (ad.add j) = some u := by
  intro ad had j u hj
  have hjn : j < n := by
    have := (List.getElem?_eq_some_iff.1 hj).1
    simpa [h.len] using this
  have hc := h.cell ad had j hjn
  rw [hb.cell (World.block_lt_of_cell? w _ hc), hc, ← hj]
  have : j < zs.length := by rw [h.len]; exact hjn
  simp [this]

theorem In.one {zs : List Int} : ∀ u ∈ zs.map (Value.int .u8), u.oneCell' = true := by
  intro u hu
  obtain ⟨x, _, rfl⟩ := List.mem_map.1 hu
  rfl

theorem data_of {w3 : World} {g N : Nat} {L : List Value} {zs : List Int} {o : Obj} (h : ∀ j, j < N * 1 → w3.cell? ⟨g, j, none⟩ = L[j]?) (hL : L = zs.map (Value.int .u8)) (hz : zs.length = N) (hg : g < w3.heap.size) : Data (w3.alloc o) g 0 zs := by
  intro j hj
  rw [World.cell?_of_block (w := w3) (Below.heap_alloc _ _ _ (by exact hg)), Nat.zero_add, h j (by omega), hL]
  simp [hj]

theorem But.below {rb B : Nat} {X W : World} (h : But rb rb X W) (hrb : B ≤ rb) (hB : B ≤ X.heap.size) : Below B X W :=
  ⟨h.os, h.tape, h.output, h.size, fun k hk => h.block k (by omega) (by omega) (by omega)⟩

theorem eq_in {g n : Nat} {bo : Option Addr} {bc : Nat} {bz : List Int} {w W : World} {T : TypeId} (hin : In w bo n bc bz) (hbel : Below w.heap.size w W) (h0 : 0 < n) (hn : n ≤ 65536) (hrow : W.heap[g]? = some (.cells (bz.map (Value.int .u8)).toArray T (0, 0))) :
    Calls Ybad.prog 7 #[.slice (some ⟨g, 0, none⟩) n n, .slice bo n bc] W fun e w' => e = .returned (.bool true) ∧ ∃ q, w' = W.drewN q := by
  cases bo with
  | none => exact absurd (hin.nil rfl).1 (by omega)
  | some ad =>
    obtain ⟨b, off, spot⟩ := ad
    have hc := hin.cell _ rfl 0 h0
    have hs : spot = none := by simpa [Addr.add] using World.cell?_spot hc
    subst hs
    refine eq_row g 0 b off n n bc bz W hn (fun j hj => ?_) (fun j hj => ?_)
    · rw [(own_block hrow).1 (0 + j)]
      have : j < bz.length := by rw [hin.len]; exact hj
      simp [this]
    · have := hin.cell _ rfl j hj
      rw [Addr.add_lit] at this
      rw [hbel.cell (World.block_lt_of_cell? w _ this)]
      exact this

/-- The header's bytes. -/
def hdrZ (bn : Nat) (num : Int) : List Int := [(bn : Int) / 256, (bn : Int) % 256, num / 16777216, num / 65536 % 256, num / 256 % 256, num % 256]
theorem hdr_two (bn : Nat) : Lib.beZ [(bn : Int) / 256, (bn : Int) % 256] = bn := by
  simp only [Lib.beZ, Lib.beFromZ]; omega
theorem hdr_four (num : Int) (n0 : 0 ≤ num) (n1 : num < 4294967296) : Lib.beZ [num / 16777216, num / 65536 % 256, num / 256 % 256, num % 256] = num := by
  simp only [Lib.beZ, Lib.beFromZ]; omega
theorem hdr_byte (bn : Nat) (num : Int) (r : List Int) (hbn : bn ≤ 65535) (n0 : 0 ≤ num) (n1 : num < 4294967296) : ∀ i, i < 6 → 0 ≤ (hdrZ bn num ++ r).getD i 0 ∧ (hdrZ bn num ++ r).getD i 0 < 256 := by
  intro i hi
  match i, hi with
  | 0, _ => show 0 ≤ (bn : Int) / 256 ∧ (bn : Int) / 256 < 256; omega
  | 1, _ => show 0 ≤ (bn : Int) % 256 ∧ (bn : Int) % 256 < 256; omega
  | 2, _ => show 0 ≤ num / 16777216 ∧ num / 16777216 < 256; omega
  | 3, _ => show 0 ≤ num / 65536 % 256 ∧ num / 65536 % 256 < 256; omega
  | 4, _ => show 0 ≤ num / 256 % 256 ∧ num / 256 % 256 < 256; omega
  | 5, _ => show 0 ≤ num % 256 ∧ num % 256 < 256; omega
theorem taken_body (bn : Nat) (num : Int) (bz tz : List Int) (h : bz.length = bn) : taken (hdrZ bn num ++ (bz ++ tz)) 6 bn = bz.map (Value.int .u8) := by
  subst h
  have : (hdrZ bz.length num ++ (bz ++ tz)).drop 6 = bz ++ tz := List.drop_left' (l₁ := hdrZ bz.length num) rfl
  unfold taken
  rw [this, List.take_left]

theorem nil_nil (W : World) : (binOp .eql 22 (.slice none 0 0) (.slice none 0 0)).run Ybad.prog W = .ok (.bool true) W := by
  simp only [binOp]
  simp [run_equal_slice_nil W 22 5 none 0 0 Ybad.underlying22]

set_option maxHeartbeats 2000000 in
theorem frame_walk (num stepb : Int) (bo to : Option Addr) (bn bc tn tc : Nat) (bz tz : List Int) (et : TypeId) (ex : Value) (w : World)
    (hb : In w bo bn bc bz) (ht : In w to tn tc tz) (hbn : bn ≤ 65535) (htn : tn ≤ 65536) (n0 : 0 ≤ num) (n1 : num < 4294967296) (s0 : 0 ≤ stepb) (s1 : stepb ≤ 255) (heof : w.cell? ⟨0, 0, none⟩ = some (.iface et ex)) :
    Calls Ybad.prog 4 #[.int .u32 num, .slice bo bn bc, .slice to tn tc, .int .u8 stepb] w fun e w' => e = .returned (.bool true) ∧ Below w.heap.size w w' := by
  obtain ⟨i0, hi, hz0, hz1, hz2⟩ := info_parts info5
  obtain ⟨c, hc⟩ : ∃ c, c = 6 + bn + tn := ⟨_, rfl⟩
  have hmk := fun W => make_room c (by omega) W
  have g1 : (6 : Int) + (bn : Int) + (tn : Int) = (c : Int) := by omega
  have t1 : decide ((65535 : Int) < (bn : Int)) = false := by simp; omega
  have t2 : decide ((65536 : Int) < (tn : Int)) = false := by simp; omega
  have HB : Hid _ := hb
  have HT : Hid _ := ht
  have HC : Hid _ := hc
  clear hb ht hc
  go_enter Ybad.func4, Ybad.ntmps4
  go_wp2_with (first | (at_builtin; refine wpList_append_src _ rfl _ _ 22 rfl w.heap.size 5 i0 (.int .u8 0) 1 1 Ybad.underlying22 hi hz0 hz1 hz2 rfl (by decide) _ 0 [] rfl ?own _ 6 6 (List.map (Value.int .u8) [(bn : Int) / 256, (bn : Int) % 256, num / 16777216, num / 65536 % 256, num / 256 % 256, num % 256]) rfl ?c0 ?c1 ?c2 ?c3 ?c4 ?c5 ?c6 ?_) | fail)
  case own => exact (World.ownsRow_made w _ c (Nat.le_refl _) (by have := HC.out; unfold maxLen; omega) (by rw [size_madeCells, Nat.mul_one])).alloc _
  case c0 => intro h; cases h
  case c1 => rfl
  case c2 =>
    intro ad had j u hj
    obtain rfl := Option.some.inj had
    exact alloc_cells _ (List.map (Value.int .u8) [(bn : Int) / 256, (bn : Int) % 256, num / 16777216, num / 65536 % 256, num / 256 % 256, num % 256]) 5 _ (by simp) j u hj
  case c3 => exact In.one
  case c4 => unfold maxLen; omega
  case c5 => omega
  case c6 => simp; omega
  intro v1 w1 own1 _ gr1
  have b1 : Below w.heap.size w w1 := (((Below.refl _ w).alloc (Nat.le_refl _) _).alloc (by simp) _).grown gr1 (by simp; omega) (fun k hk => by
    simp only [Value.ownBlock, Option.some.injEq] at hk
    omega)
  have O1 : Hid _ := own1
  clear own1 gr1
  go_wp2_with (first | (at_builtin; refine wpList_append_src _ rfl _ _ 22 rfl w.heap.size 5 i0 (.int .u8 0) 1 1 Ybad.underlying22 hi hz0 hz1 hz2 rfl (by decide) _ _ _ rfl O1.out _ bn bc (List.map (Value.int .u8) bz) rfl ?c0 ?c1 ?c2 ?c3 ?c4 ?c5 ?c6 ?_) | fail)
  case c0 => exact HB.out.nil
  case c1 => simp [HB.out.len]
  case c2 => exact HB.out.src b1
  case c3 => exact In.one
  case c4 => unfold maxLen; omega
  case c5 => omega
  case c6 => exact b1.size
  intro v2 w2 own2 _ gr2
  have b2 : Below w.heap.size w w2 := b1.grown gr2 b1.size (fun k hk => (World.ownsRow.lt O1.out k hk).1)
  have O2 : Hid _ := own2
  clear own2 gr2 O1
  go_wp2_with (first | (at_builtin; refine wpList_append_src _ rfl _ _ 22 rfl w.heap.size 5 i0 (.int .u8 0) 1 1 Ybad.underlying22 hi hz0 hz1 hz2 rfl (by decide) _ _ _ rfl O2.out _ tn tc (List.map (Value.int .u8) tz) rfl ?c0 ?c1 ?c2 ?c3 ?c4 ?c5 ?c6 ?_) | fail)
  case c0 => exact HT.out.nil
  case c1 => simp [HT.out.len]
  case c2 => exact HT.out.src b2
  case c3 => exact In.one
  case c4 => unfold maxLen; omega
  case c5 => omega
  case c6 => exact b2.size
  intro v3 w3 own3 _ gr3
  have b3 : Below w.heap.size w w3 := b2.grown gr3 b2.size (fun k hk => (World.ownsRow.lt O2.out k hk).1)
  obtain ⟨g, cap, hv, hg0, hg1, hcap0, hcap1, hcells⟩ := own_shape own3 (by omega)
  have HV : Hid _ := hcells
  clear own3 gr3 O2 hcells b1 b2
  subst hv
  have heof3 : w3.cell? ⟨0, 0, none⟩ = some (.iface et ex) := by rw [b3.cell (World.block_lt_of_cell? w _ heof)]; exact heof
  clear heof
  go_wp2_with fail
  have hzl : (hdrZ bn num ++ (bz ++ tz)).length = 6 + bn + tn := by
    rw [List.length_append, List.length_append, HB.out.len, HT.out.len]; simp [hdrZ]; omega
  refine Calls.mono (num_full w3.heap.size bn g 0 (6 + bn + tn) cap _ et ex (hdrZ bn num ++ (bz ++ tz)) _ ⟨heap_alloc_new _ _, data_of HV.out (by simp [hdrZ]) hzl hg1, hzl, hcap0, hcap1, by omega⟩ hbn (by omega) (hdr_byte bn num _ hbn n0 n1) (hdr_two bn) num (hdr_four num n0 n1)) ?_
  rintro e w5 ⟨v, rfl, r1, r2, r3⟩
  have b5 : Below w.heap.size w w5 := (b3.alloc b3.size _).trans (r3.below b3.size (by simp; have := b3.size; omega))
  have c1 : w5.cell? ⟨w3.heap.size, 1, none⟩ = some (.int .i64 (6 + (bn : Int))) := by
    rw [(own_block r1.box).1 1]; rfl
  clear r1 r3 heof3 HV hmk hzl
  have u22 := Ybad.underlying22
  rcases r2 with ⟨h0, rfl⟩ | ⟨h0, g', hg', rfl, hrow⟩
  · subst h0
    have nn := nil_nil
    go_wp2
    go_ret
    exact ⟨rfl, b5⟩
  · rw [taken_body bn num bz tz HB.out.len] at hrow
    have CE : Hid _ := eq_in HB.out b5 h0 (by omega) hrow
    clear hrow
    have t5 : ((bn : Int) == 0) = false := by simp; omega
    have t6 : ¬ bn = 0 := by omega
    go_wp2_with fail
    refine Calls.mono CE.out ?_
    rintro e w6 ⟨rfl, q, hq⟩
    obtain rfl := hq.symm
    go_wp2
    go_ret
    exact ⟨rfl, ⟨b5.os, b5.tape, b5.output, b5.size, b5.block⟩⟩

set_option maxHeartbeats 400000 in
theorem frame_long (a1 a4 : Value) (bo to : Option Addr) (bn bc tn tc : Nat) (w : World) (h : 65535 < bn) :
    Calls Ybad.prog 4 #[a1, .slice bo bn bc, .slice to tn tc, a4] w fun e w' => e = .returned (.bool true) ∧ Below w.heap.size w w' := by
  have t1 : decide ((65535 : Int) < (bn : Int)) = true := by simp; omega
  go_enter Ybad.func4, Ybad.ntmps4
  go_wp2
  go_ret
  exact ⟨rfl, Below.refl _ _⟩

set_option maxHeartbeats 400000 in
theorem frame_tail (a1 a4 : Value) (bo to : Option Addr) (bn bc tn tc : Nat) (w : World) (h : bn ≤ 65535) (h2 : 65536 < tn) :
    Calls Ybad.prog 4 #[a1, .slice bo bn bc, .slice to tn tc, a4] w fun e w' => e = .returned (.bool true) ∧ Below w.heap.size w w' := by
  have t1 : decide ((65535 : Int) < (bn : Int)) = false := by simp; omega
  have t2 : decide ((65536 : Int) < (tn : Int)) = true := by simp; omega
  go_enter Ybad.func4, Ybad.ntmps4
  go_wp2
  go_ret
  exact ⟨rfl, Below.refl _ _⟩

/-- LawS4291AFrame: true, and of what was there nothing has turned. -/
theorem frame_any (num stepb : Int) (bo to : Option Addr) (bn bc tn tc : Nat) (bz tz : List Int) (et : TypeId) (ex : Value) (w : World)
    (hb : In w bo bn bc bz) (ht : In w to tn tc tz) (n0 : 0 ≤ num) (n1 : num < 4294967296) (s0 : 0 ≤ stepb) (s1 : stepb ≤ 255) (heof : w.cell? ⟨0, 0, none⟩ = some (.iface et ex)) :
    Calls Ybad.prog 4 #[.int .u32 num, .slice bo bn bc, .slice to tn tc, .int .u8 stepb] w fun e w' => e = .returned (.bool true) ∧ Below w.heap.size w w' := by
  rcases Nat.lt_or_ge 65535 bn with h | h
  · exact frame_long _ _ bo to bn bc tn tc w h
  · rcases Nat.lt_or_ge 65536 tn with h2 | h2
    · exact frame_tail _ _ bo to bn bc tn tc w h h2
    · exact frame_walk num stepb bo to bn bc tn tc bz tz et ex w hb ht h h2 n0 n1 s0 s1 heof

end Go.Proofs.YbulkcjvoDoor

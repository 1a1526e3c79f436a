/-
  (time.Time).Sub: exact where the span fits a Duration, else the greatest one.
-/
import Derived.Test.YbulkcjtkSub
namespace Go.Proofs.Ybulkcjtk
open Go.RowKit

theorem bal {a w : World} (h : Below a.heap.size a w) (o : Obj) : Below a.heap.size a (w.alloc o) := h.alloc h.size o

theorem TM_same {N a s b t : Int} (h : TM N a s) (g : TM N b t) : a = b ∧ s = t := by
  obtain ⟨h0, h1, h2⟩ := h
  obtain ⟨g0, g1, g2⟩ := g
  omega

/-- Add, where the sum is known by its seconds and nanoseconds. -/
theorem add_to (N b t d M a s : Int) (w : World) (hN : TM N b t) (hM : TM M a s) (e3 : N + d = M) (h2 : -1000000000000000000 ≤ t) (h3 : t ≤ 1000000000000000000) (d0 : -9223372036854775808 ≤ d) (d1 : d ≤ 9223372036854775807) :
    Calls Yba.prog 7 #[.agg #[.int .u64 b, .int .i64 t, .pointer none], .int .i64 d] w fun e w' => e = .returned (.agg #[.int .u64 a, .int .i64 s, .pointer none]) ∧ ∃ c1 c2, w' = (w.alloc (.cells c1 27)).alloc (.cells c2 27) := by
  refine (add_any N b t d w hN h2 h3 d0 d1).mono ?_
  rintro e w' ⟨b', t', rfl, hT, hw⟩
  rw [e3] at hT
  obtain ⟨q1, q2⟩ := TM_same hM hT
  subst q1 q2
  exact ⟨rfl, hw⟩

set_option maxHeartbeats 400000 in
theorem sub_fit (M N a s b t : Int) (w : World) (hM : TM M a s) (hN : TM N b t) (s0 : -1000000000000000000 ≤ s) (s1 : s ≤ 1000000000000000000) (t0 : -1000000000000000000 ≤ t) (t1 : t ≤ 1000000000000000000)
    (hle : N ≤ M) (hfit : M - N ≤ 9223372036854775807) :
    Calls Yba.prog 12 #[.agg #[.int .u64 a, .int .i64 s, .pointer none], .agg #[.int .u64 b, .int .i64 t, .pointer none]] w fun e w' => e = .returned (.int .i64 (M - N)) ∧ Below w.heap.size w w' := by
  have h0 := hM.1; have h1 := hM.2.1; have g0 := hN.1; have g1 := hN.2.1
  have m3 := top_two a b h0 h1 g0 g1
  obtain ⟨d, hd⟩ : ∃ d, M - N = d := ⟨_, rfl⟩
  have r1 : wrap64 (wrap64 ((s - t) * 1000000000) + (a - b)) = d := by
    have e1 := hM.2.2; have e2 := hN.2.2
    unfold wrap64
    omega
  have d0 : 0 ≤ d := by omega
  have d00 : -9223372036854775808 ≤ d := by omega
  have d1 : d ≤ 9223372036854775807 := by omega
  have e3 : N + d = M := by omega
  have HM : Hid _ := hM
  have HN : Hid _ := hN
  have E3 : Hid _ := e3
  rw [hd]
  clear hM hN hle hfit hd e3
  go_enter Yba.func12, Yba.ntmps12
  go_wp2_with fail
  refine (sec_any _ a s _ h0 h1 (by simp) (by simp)).mono ?_
  rintro e w1 ⟨rfl, hw⟩; obtain rfl := hw.symm; clear hw
  go_wp2_with fail
  refine (sec_any _ b t _ g0 g1 (by simp) (by simp)).mono ?_
  rintro e w1 ⟨rfl, hw⟩; obtain rfl := hw.symm; clear hw
  go_wp2_with fail
  refine (nsec_any _ a _ h0 h1 (by simp)).mono ?_
  rintro e w1 ⟨rfl, hw⟩; obtain rfl := hw.symm; clear hw
  go_wp2_with fail
  refine (nsec_any _ b _ g0 g1 (by simp)).mono ?_
  rintro e w1 ⟨rfl, hw⟩; obtain rfl := hw.symm; clear hw
  go_wp2_with fail
  go_region_held3 (fun w' => w'.cell? ⟨w.heap.size, 0, none⟩ = some (.int .u64 a) ∧ w'.cell? ⟨w.heap.size, 1, none⟩ = some (.int .i64 s) ∧ w'.cell? ⟨w.heap.size, 2, none⟩ = some (.pointer none) ∧ w'.cell? ⟨w.heap.size + 1, 0, none⟩ = some (.int .u64 b) ∧ w'.cell? ⟨w.heap.size + 1, 1, none⟩ = some (.int .i64 t) ∧ w'.cell? ⟨w.heap.size + 1, 2, none⟩ = some (.pointer none)) (simp [go_sem, World.cell?_alloc_past])
    (first
      | (go_at_call 7; refine (add_to N b t d M a s _ HN.out HM.out E3.out t0 t1 d00 d1).mono ?_; rintro e w' ⟨rfl, o1, o2, rfl⟩)
      | (go_at_call 27; refine (equal_same a s _ h0 h1).mono ?_; rintro e w' ⟨rfl, o1, o2, rfl⟩))
  go_wp2
  go_ret
  exact ⟨rfl, by repeat (first | exact Below.refl _ _ | apply Below.drew | refine bal ?_ _)⟩
set_option maxHeartbeats 400000 in
theorem sub_far (M N a s b t : Int) (w : World) (hM : TM M a s) (hN : TM N b t) (s0 : -1000000000000000000 ≤ s) (s1 : s ≤ 1000000000000000000) (t0 : -1000000000000000000 ≤ t) (t1 : t ≤ 1000000000000000000)
    (hle : N ≤ M) (hfar : 9223372036854775807 < M - N) :
    Calls Yba.prog 12 #[.agg #[.int .u64 a, .int .i64 s, .pointer none], .agg #[.int .u64 b, .int .i64 t, .pointer none]] w fun e w' => e = .returned (.int .i64 9223372036854775807) ∧ Below w.heap.size w w' := by
  have h0 := hM.1; have h1 := hM.2.1; have g0 := hN.1; have g1 := hN.2.1
  have m3 := top_two a b h0 h1 g0 g1
  obtain ⟨d, hd⟩ : ∃ d, wrap64 (M - N) = d := ⟨_, rfl⟩
  have r1 : wrap64 (wrap64 ((s - t) * 1000000000) + (a - b)) = d := by
    have e1 := hM.2.2; have e2 := hN.2.2
    rw [← hd]
    unfold wrap64
    omega
  have d00 : -9223372036854775808 ≤ d := by rw [← hd]; unfold wrap64; omega
  have d1 : d ≤ 9223372036854775807 := by rw [← hd]; unfold wrap64; omega
  have e3 : N + d ≠ M := by omega
  have HM : Hid _ := hM
  have HN : Hid _ := hN
  have E3 : Hid _ := e3
  have HLE : Hid _ := hle
  clear hM hN hle hfar hd e3
  go_enter Yba.func12, Yba.ntmps12
  go_wp2_with fail
  refine (sec_any _ a s _ h0 h1 (by simp) (by simp)).mono ?_
  rintro e w1 ⟨rfl, hw⟩; obtain rfl := hw.symm; clear hw
  go_wp2_with fail
  refine (sec_any _ b t _ g0 g1 (by simp) (by simp)).mono ?_
  rintro e w1 ⟨rfl, hw⟩; obtain rfl := hw.symm; clear hw
  go_wp2_with fail
  refine (nsec_any _ a _ h0 h1 (by simp)).mono ?_
  rintro e w1 ⟨rfl, hw⟩; obtain rfl := hw.symm; clear hw
  go_wp2_with fail
  refine (nsec_any _ b _ g0 g1 (by simp)).mono ?_
  rintro e w1 ⟨rfl, hw⟩; obtain rfl := hw.symm; clear hw
  go_wp2_with fail
  go_region_held3 (fun w' => w'.cell? ⟨w.heap.size, 0, none⟩ = some (.int .u64 a) ∧ w'.cell? ⟨w.heap.size, 1, none⟩ = some (.int .i64 s) ∧ w'.cell? ⟨w.heap.size, 2, none⟩ = some (.pointer none) ∧ w'.cell? ⟨w.heap.size + 1, 0, none⟩ = some (.int .u64 b) ∧ w'.cell? ⟨w.heap.size + 1, 1, none⟩ = some (.int .i64 t) ∧ w'.cell? ⟨w.heap.size + 1, 2, none⟩ = some (.pointer none)) (simp [go_sem, World.cell?_alloc_past])
    (first
      | (go_at_call 7; refine (add_any N b t d _ HN.out t0 t1 d00 d1).mono ?_; rintro e w' ⟨b', t', rfl, hT, o1, o2, rfl⟩; have HT : Hid _ := hT; clear hT)
      | (go_at_call 27; refine (equal_diff (N + d) M _ _ a s _ HT.out HM.out E3.out).mono ?_; rintro e w' ⟨rfl, o1, o2, rfl⟩))
  go_wp2_with fail
  refine (before_no M N a s b t _ HM.out HN.out HLE.out).mono ?_
  rintro e w1 ⟨rfl, o1, o2, hw⟩; obtain rfl := hw.symm; clear hw
  go_wp2
  go_ret
  exact ⟨rfl, by repeat (first | exact Below.refl _ _ | apply Below.drew | refine bal ?_ _)⟩

/-- Both: the span, or the greatest Duration. -/
theorem sub_any (M N a s b t : Int) (w : World) (hM : TM M a s) (hN : TM N b t) (s0 : -1000000000000000000 ≤ s) (s1 : s ≤ 1000000000000000000) (t0 : -1000000000000000000 ≤ t) (t1 : t ≤ 1000000000000000000) (hle : N ≤ M) :
    Calls Yba.prog 12 #[.agg #[.int .u64 a, .int .i64 s, .pointer none], .agg #[.int .u64 b, .int .i64 t, .pointer none]] w fun e w' => ∃ D, e = .returned (.int .i64 D) ∧ (M - N ≤ 9223372036854775807 → D = M - N) ∧ (9223372036854775807 < M - N → D = 9223372036854775807) ∧ Below w.heap.size w w' := by
  by_cases h : M - N ≤ 9223372036854775807
  · exact (sub_fit M N a s b t w hM hN s0 s1 t0 t1 hle h).mono fun e w' ⟨p, q⟩ => ⟨_, p, fun _ => rfl, fun g => by omega, q⟩
  · exact (sub_far M N a s b t w hM hN s0 s1 t0 t1 hle (by omega)).mono fun e w' ⟨p, q⟩ => ⟨_, p, fun g => by omega, fun _ => rfl, q⟩

end Go.Proofs.Ybulkcjtk

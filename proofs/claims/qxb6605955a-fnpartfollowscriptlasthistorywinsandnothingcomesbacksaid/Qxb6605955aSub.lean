import Derived.Test.Qxb6605955aTime
import Derived.Deep.RegionHeld3
import Derived.Deep.DrawnRows
namespace Go.Proofs.Qxb6605955a
open Go.RowKit
attribute [local go_sem ↓] Go.wp_at_zero Go.wp_at_succ

theorem and_zero (n : Int) (h0 : 0 ≤ n) (h1 : n < 1000000000) : bits .and .u64 n 0 = 0 := by
  obtain ⟨m, rfl⟩ := Int.eq_ofNat_of_zero_le h0
  have := u64_and_nat m 0 (by omega) (by omega)
  simpa using this
theorem and_same (n : Int) (h0 : 0 ≤ n) (h1 : n < 1000000000) : bits .and .u64 n n = n := by
  obtain ⟨m, rfl⟩ := Int.eq_ofNat_of_zero_le h0
  have := u64_and_nat m m (by omega) (by omega)
  simpa using this

/-- Two boxes laid one behind the other. -/
theorem two_boxes (w : World) (x y : Array Value) (t : TypeId) : ((w.alloc (.cells x t)).alloc (.cells y t)).heap[w.heap.size]? = some (.cells x t (0, 0)) ∧ ((w.alloc (.cells x t)).alloc (.cells y t)).heap[w.heap.size + 1]? = some (.cells y t (0, 0)) ∧ Below w.heap.size w ((w.alloc (.cells x t)).alloc (.cells y t)) := by
  refine ⟨by rw [old_at _ (by simp), new_at], ?_, ((Below.refl _ _).alloc (Nat.le_refl _) _).alloc (by simp) _⟩
  have := new_at (w.alloc (.cells x t)) (.cells y t)
  simpa using this

set_option maxRecDepth 100000 in
set_option maxHeartbeats 1000000 in
/-- t.Equal(u), of two like times. -/
theorem equal42 (n s : Int) (w : World) (h0 : 0 ≤ n) (h1 : n < 1000000000) :
    Calls Try.prog 42 #[tm n s, tm n s] w fun r w' => r = .returned (.bool true) ∧ Below w.heap.size w w' := by
  have hs := and_same n h0 h1
  have hm := and_mono n h0 h1
  unfold tm
  go_enter Try.func42, Try.ntmps42
  go_wp2_with fail
  obtain ⟨a0, a1, bA⟩ := two_boxes w #[.int .u64 n, .int .i64 s, .pointer none] #[.int .u64 n, .int .i64 s, .pointer none] 56
  generalize hwA : (w.alloc (.cells #[.int .u64 n, .int .i64 s, .pointer none] 56)).alloc (.cells #[.int .u64 n, .int .i64 s, .pointer none] 56) = wA at *
  clear hwA
  have c0 : wA.cell? ⟨w.heap.size, 0, none⟩ = some (.int .u64 n) := (cell_of a0 0).trans rfl
  have c1 : wA.cell? ⟨w.heap.size, 0 + 1, none⟩ = some (.int .i64 s) := (cell_of a0 1).trans rfl
  have d0 : wA.cell? ⟨w.heap.size + 1, 0, none⟩ = some (.int .u64 n) := (cell_of a1 0).trans rfl
  have d1 : wA.cell? ⟨w.heap.size + 1, 0 + 1, none⟩ = some (.int .i64 s) := (cell_of a1 1).trans rfl
  have BA := hide bA
  clear a0 a1 bA
  refine (sec41 _ 0 n s wA h0 h1 c0 c1).mono ?_
  rintro e w' ⟨rfl, rfl⟩
  go_wp2_with fail
  refine (sec41 _ 0 n s w' h0 h1 d0 d1).mono ?_
  rintro e wA ⟨rfl, rfl⟩
  go_wp2_with fail
  refine (nsec35 _ 0 n wA h0 h1 c0).mono ?_
  rintro e w' ⟨rfl, rfl⟩
  go_wp2_with fail
  refine (nsec35 _ 0 n w' h0 h1 d0).mono ?_
  rintro e wA ⟨rfl, rfl⟩
  go_wp2
  go_ret
  exact ⟨rfl, BA.out⟩

theorem back (d : Int) (h0 : -9223372036854775808 ≤ d) (h1 : d ≤ 9223372036854775807) : wrap64 (wrap64 (d / 1000000000 * 1000000000) + d % 1000000000) = d := by
  unfold wrap64
  omega

set_option maxRecDepth 100000 in
set_option maxHeartbeats 3200000 in
/-- t.Sub(time.Time{}), t = zero.Add(d): it is d. -/
theorem sub32 (d : Int) (w : World) (hd0 : -9223372036854775808 ≤ d) (hd1 : d ≤ 9223372036854775807) :
    Calls Try.prog 32 #[tm (d % 1000000000) (d / 1000000000), tm 0 0] w fun r w' => r = .returned (.int .i64 d) ∧ Below w.heap.size w w' := by
  obtain ⟨n, hn⟩ : ∃ n, n = d % 1000000000 := ⟨_, rfl⟩
  obtain ⟨s, hs⟩ : ∃ s, s = d / 1000000000 := ⟨_, rfl⟩
  have h0 : 0 ≤ n := by omega
  have h1 : n < 1000000000 := by omega
  have hbk : Hid (wrap64 (wrap64 (s * 1000000000) + n) = d) := by rw [Hid, hn, hs]; exact back d hd0 hd1
  have hs0 : -9223372037 ≤ s := by omega
  have hs1 : s ≤ 9223372036 := by omega
  rw [← hn, ← hs]
  have HN := hide hn; have HSS := hide hs
  clear hn hs
  have hz := and_zero n h0 h1
  have hz2 := and_mono 0 (by omega) (by omega)
  unfold tm
  go_enter Try.func32, Try.ntmps32
  go_wp2_with fail
  obtain ⟨a0, a1, bA⟩ := two_boxes w #[.int .u64 n, .int .i64 s, .pointer none] #[.int .u64 0, .int .i64 0, .pointer none] 56
  generalize hwA : (w.alloc (.cells #[.int .u64 n, .int .i64 s, .pointer none] 56)).alloc (.cells #[.int .u64 0, .int .i64 0, .pointer none] 56) = wA at *
  clear hwA
  have c0 : wA.cell? ⟨w.heap.size, 0, none⟩ = some (.int .u64 n) := (cell_of a0 0).trans rfl
  have c1 : wA.cell? ⟨w.heap.size, 0 + 1, none⟩ = some (.int .i64 s) := (cell_of a0 1).trans rfl
  have d0 : wA.cell? ⟨w.heap.size + 1, 0, none⟩ = some (.int .u64 0) := (cell_of a1 0).trans rfl
  have d1 : wA.cell? ⟨w.heap.size + 1, 0 + 1, none⟩ = some (.int .i64 0) := (cell_of a1 1).trans rfl
  have A0 := hide a0; have A1 := hide a1
  have BA := hide bA
  clear a0 a1 bA
  refine (sec41 _ 0 n s wA h0 h1 c0 c1).mono ?_
  rintro e w' ⟨rfl, rfl⟩
  go_wp2_with fail
  refine (sec41 _ 0 0 0 w' (by omega) (by omega) d0 d1).mono ?_
  rintro e wA ⟨rfl, rfl⟩
  go_wp2_with fail
  refine (nsec35 _ 0 n wA h0 h1 c0).mono ?_
  rintro e w' ⟨rfl, rfl⟩
  go_wp2_with fail
  refine (nsec35 _ 0 0 w' (by omega) (by omega) d0).mono ?_
  rintro e wA ⟨rfl, rfl⟩
  go_wp2_with fail
  rw [hbk.out]
  have HADD : Hid (∀ w : World, Calls Try.prog 30 #[.agg #[.int .u64 0, .int .i64 0, .pointer none], .int .i64 d] w fun r w' => r = .returned (.agg #[.int .u64 n, .int .i64 s, .pointer none]) ∧ Below w.heap.size w w') := by
    intro w
    rw [HN.out, HSS.out]
    exact add30 d w hd0 hd1
  have HEQ : Hid (∀ w : World, Calls Try.prog 42 #[.agg #[.int .u64 n, .int .i64 s, .pointer none], .agg #[.int .u64 n, .int .i64 s, .pointer none]] w fun r w' => r = .returned (.bool true) ∧ Below w.heap.size w w') := fun w => equal42 n s w h0 h1
  have HK : Hid (∀ {w1 w2 : World} {b o : Nat} {v : Value}, w1.cell? ⟨b, o, none⟩ = some v → Below w1.heap.size w1 w2 → w2.cell? ⟨b, o, none⟩ = some v) := fun h hb => cell_kept hb (World.block_lt_of_cell? _ _ h) h
  have x0 : wA.cell? ⟨w.heap.size, 0, none⟩ = some (.int .u64 n) := c0
  have x1 : wA.cell? ⟨w.heap.size, 1, none⟩ = some (.int .i64 s) := c1
  have x2 : wA.cell? ⟨w.heap.size, 2, none⟩ = some (.pointer none) := (cell_of A0.out 2).trans rfl
  have y0 : wA.cell? ⟨w.heap.size + 1, 0, none⟩ = some (.int .u64 0) := d0
  have y1 : wA.cell? ⟨w.heap.size + 1, 1, none⟩ = some (.int .i64 0) := d1
  have y2 : wA.cell? ⟨w.heap.size + 1, 2, none⟩ = some (.pointer none) := (cell_of A1.out 2).trans rfl
  clear c0 c1 d0 d1 hz hz2 A0 A1 hbk
  go_region_held3 (fun w' => w'.cell? ⟨w.heap.size, 0, none⟩ = some (.int .u64 n) ∧ w'.cell? ⟨w.heap.size, 1, none⟩ = some (.int .i64 s) ∧ w'.cell? ⟨w.heap.size, 2, none⟩ = some (.pointer none) ∧ w'.cell? ⟨w.heap.size + 1, 0, none⟩ = some (.int .u64 0) ∧ w'.cell? ⟨w.heap.size + 1, 1, none⟩ = some (.int .i64 0) ∧ w'.cell? ⟨w.heap.size + 1, 2, none⟩ = some (.pointer none) ∧ Below w.heap.size w w')
    (first | exact keep2 | exact keep1 | exact ⟨x0, x1, x2, y0, y1, y2, BA.out⟩ | exact ⟨x0, x1, x2, y0, y1, y2, BA.out.drew⟩ | go_keep)
    (first | (go_at_call 30; refine (HADD.out wA.drew).mono ?_; rintro e w1 ⟨rfl, hb1⟩; have keep1 := And.intro (HK.out (w1 := wA.drew) x0 hb1) (And.intro (HK.out (w1 := wA.drew) x1 hb1) (And.intro (HK.out (w1 := wA.drew) x2 hb1) (And.intro (HK.out (w1 := wA.drew) y0 hb1) (And.intro (HK.out (w1 := wA.drew) y1 hb1) (And.intro (HK.out (w1 := wA.drew) y2 hb1) (BA.out.drew.trans (hb1.mono BA.out.size))))))))
           | (go_at_call 42; refine (HEQ.out w1).mono ?_; rintro e w2 ⟨rfl, hb2⟩; have keep2 := And.intro (HK.out keep1.1 hb2) (And.intro (HK.out keep1.2.1 hb2) (And.intro (HK.out keep1.2.2.1 hb2) (And.intro (HK.out keep1.2.2.2.1 hb2) (And.intro (HK.out keep1.2.2.2.2.1 hb2) (And.intro (HK.out keep1.2.2.2.2.2.1 hb2) (keep1.2.2.2.2.2.2.trans (hb2.mono keep1.2.2.2.2.2.2.size)))))))))
  have BZ := hide keep2.2.2.2.2.2.2
  clear keep1 keep2 hb1 hb2 x0 x1 x2 y0 y1 y2
  go_wp2
  go_ret
  exact ⟨rfl, BZ.out⟩
end Go.Proofs.Qxb6605955a

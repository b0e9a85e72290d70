import Derived.Test.Qxb6605955aMem
import Derived.Test.Qxb6605955aProg
namespace Go.Proofs.Qxb6605955a
open Go.RowKit

theorem and_mask (n : Int) (h0 : 0 ≤ n) (h1 : n < 1000000000) : bits .and .u64 n 1073741823 = n := by
  obtain ⟨m, rfl⟩ := Int.eq_ofNat_of_zero_le h0
  have := u64_and_nat m 1073741823 (by omega) (by omega)
  rw [show ((1073741823 : Nat) : Int) = 1073741823 from rfl] at this
  rw [this, show (1073741823 : Nat) = 2 ^ 30 - 1 from rfl, Nat.and_two_pow_sub_one_eq_mod, Nat.mod_eq_of_lt (by omega)]
theorem and_mono (n : Int) (h0 : 0 ≤ n) (h1 : n < 1000000000) : bits .and .u64 n 9223372036854775808 = 0 := by
  obtain ⟨m, rfl⟩ := Int.eq_ofNat_of_zero_le h0
  have := u64_and_nat m 9223372036854775808 (by omega) (by omega)
  rw [show ((9223372036854775808 : Nat) : Int) = 9223372036854775808 from rfl] at this
  have e : m &&& 2 ^ 63 = 0 := by
    apply Nat.eq_of_testBit_eq
    intro i
    rw [Nat.testBit_and, Nat.zero_testBit, Nat.testBit_two_pow]
    by_cases h : 63 = i
    · subst h
      rw [Nat.testBit_lt_two_pow (by omega)]; rfl
    · simp [h]
  rw [this, show (9223372036854775808 : Nat) = 2 ^ 63 from rfl, e]
  rfl
theorem andNot_zero : bits .andNot .u64 0 1073741823 = 0 := by
  have := u64_andNot_nat 0 1073741823 (by omega) (by omega)
  simpa using this
theorem or_zero (n : Int) (h0 : 0 ≤ n) (h1 : n < 1000000000) : bits .or .u64 0 n = n := by
  obtain ⟨m, rfl⟩ := Int.eq_ofNat_of_zero_le h0
  have := u64_or_nat 0 m (by omega) (by omega)
  simpa using this

set_option maxRecDepth 100000 in
set_option maxHeartbeats 400000 in
theorem nsec35 (b o : Nat) (n : Int) (w : World) (h0 : 0 ≤ n) (h1 : n < 1000000000) (h : w.cell? ⟨b, o, none⟩ = some (.int .u64 n)) :
    Calls Try.prog 35 #[.pointer (some ⟨b, o, none⟩)] w fun e w' => e = .returned (.int .i32 n) ∧ w' = w := by
  have hb := and_mask n h0 h1
  go_enter Try.func35, Try.ntmps35
  go_wp2
  go_ret
  exact ⟨rfl, rfl⟩

set_option maxRecDepth 100000 in
set_option maxHeartbeats 400000 in
theorem sec41 (b o : Nat) (n e : Int) (w : World) (h0 : 0 ≤ n) (h1 : n < 1000000000) (h : w.cell? ⟨b, o, none⟩ = some (.int .u64 n)) (he : w.cell? ⟨b, o + 1, none⟩ = some (.int .i64 e)) :
    Calls Try.prog 41 #[.pointer (some ⟨b, o, none⟩)] w fun r w' => r = .returned (.int .i64 e) ∧ w' = w := by
  have hb := and_mono n h0 h1
  go_enter Try.func41, Try.ntmps41
  go_wp2
  go_ret
  exact ⟨rfl, rfl⟩

set_option maxRecDepth 100000 in
set_option maxHeartbeats 400000 in
/-- addSec, from ext 0, no monotonic reading. -/
theorem addSec36 (b o : Nat) (n d : Int) (w : World) (h0 : 0 ≤ n) (h1 : n < 1000000000) (h : w.cell? ⟨b, o, none⟩ = some (.int .u64 n)) (he : w.cell? ⟨b, o + 1, none⟩ = some (.int .i64 0)) (hf : w.frozen? ⟨b, o + 1, none⟩ = false)
    (hd0 : -9223372037 ≤ d) (hd1 : d ≤ 9223372036) :
    Calls Try.prog 36 #[.pointer (some ⟨b, o, none⟩), .int .i64 d] w fun r w' => r = .returned (.tuple #[]) ∧ w' = w.setCell ⟨b, o + 1, none⟩ (.int .i64 d) := by
  have hb := and_mono n h0 h1
  go_enter Try.func36, Try.ntmps36
  go_wp2
  go_end0
  exact ⟨rfl, rfl⟩

theorem tmod_neg (d : Int) (h : d < 0) (hr : d % 1000000000 ≠ 0) : d.tmod 1000000000 = d % 1000000000 - 1000000000 := by
  rw [Int.tmod_eq_emod]
  split
  · omega
  · simp
theorem tdiv_neg (d : Int) (h : d < 0) (hr : d % 1000000000 ≠ 0) : d.tdiv 1000000000 = d / 1000000000 + 1 := by
  rw [Int.tdiv_eq_ediv]
  split
  · omega
  · simp
theorem tmod_even (d : Int) (hr : d % 1000000000 = 0) : d.tmod 1000000000 = 0 := by
  rw [Int.tmod_eq_emod, if_pos (Or.inr (Int.dvd_of_emod_eq_zero hr)), hr]; rfl
theorem tdiv_even (d : Int) (hr : d % 1000000000 = 0) : d.tdiv 1000000000 = d / 1000000000 := by
  rw [Int.tdiv_eq_ediv, if_pos (Or.inr (Int.dvd_of_emod_eq_zero hr))]; exact Int.add_zero _
theorem tdiv_pos (d : Int) (h : 0 ≤ d) : d.tdiv 1000000000 = d / 1000000000 := by
  rw [Int.tdiv_eq_ediv, if_pos (Or.inl h)]; exact Int.add_zero _

/-- A Time without a monotonic reading: its three cells. -/
def tm (n e : Int) : Value := .agg #[.int .u64 n, .int .i64 e, .pointer none]

set_option maxRecDepth 100000 in
set_option maxHeartbeats 1000000 in
/-- zero.Add(d). -/
theorem add30 (d : Int) (w : World) (hd0 : -9223372036854775808 ≤ d) (hd1 : d ≤ 9223372036854775807) :
    Calls Try.prog 30 #[tm 0 0, .int .i64 d] w fun r w' => r = .returned (tm (d % 1000000000) (d / 1000000000)) ∧ Below w.heap.size w w' := by
  have hor := or_zero (d % 1000000000) (by omega) (by omega)
  have han := andNot_zero
  have hmo := and_mono (d % 1000000000) (by omega) (by omega)
  unfold tm
  go_enter Try.func30, Try.ntmps30
  go_wp2_with fail
  generalize hwA : (w.alloc (.cells #[.int .u64 0, .int .i64 0, .pointer none] 56)).alloc (.cells #[.int .u64 0, .int .i64 0, .pointer none] 56) = wA
  have a0 : wA.heap[w.heap.size]? = some (.cells #[.int .u64 0, .int .i64 0, .pointer none] 56 (0, 0)) := by rw [← hwA, old_at _ (by simp), new_at]
  have a1 : wA.heap[w.heap.size + 1]? = some (.cells #[.int .u64 0, .int .i64 0, .pointer none] 56 (0, 0)) := by
    have := new_at (w.alloc (.cells #[.int .u64 0, .int .i64 0, .pointer none] 56)) (.cells #[.int .u64 0, .int .i64 0, .pointer none] 56)
    rw [← hwA]; simpa using this
  have bA : Below w.heap.size w wA := by rw [← hwA]; exact ((Below.refl _ _).alloc (Nat.le_refl _) _).alloc (by simp) _
  clear hwA
  have c0 : wA.cell? ⟨w.heap.size, 0, none⟩ = some (.int .u64 0) := (cell_of a0 0).trans rfl
  have f0 := free_of a0 0
  have A0 := hide a0; have A1 := hide a1; have BA := hide bA
  clear a0 a1 bA
  refine (nsec35 _ _ 0 wA (by omega) (by omega) c0).mono ?_
  rintro e w' ⟨rfl, rfl⟩
  have b0 : 0 ≤ d % 1000000000 := by omega
  have b1 : d % 1000000000 < 1000000000 := by omega
  have b2 : -9223372037 ≤ d / 1000000000 := by omega
  have b3 : d / 1000000000 ≤ 9223372036 := by omega
  by_cases hneg : 0 ≤ d
  · have e1 := tdiv_pos d hneg
    go_wp2_with fail
    generalize hwB : w'.setCell ⟨w.heap.size, 0, none⟩ (.int .u64 (d % 1000000000)) = wB
    have a0 : wB.heap[w.heap.size]? = some (.cells #[.int .u64 (d % 1000000000), .int .i64 0, .pointer none] 56 (0, 0)) := by rw [← hwB, set_same A0.out]; rfl
    have a1 : wB.heap[w.heap.size + 1]? = some (.cells #[.int .u64 0, .int .i64 0, .pointer none] 56 (0, 0)) := by rw [← hwB, set_other _ _ (by omega)]; exact A1.out
    have BB : Hid (Below w.heap.size w wB) := by rw [← hwB]; exact BA.out.setCell (Nat.le_refl _) _
    clear hwB
    refine (addSec36 w.heap.size 0 (d % 1000000000) (d / 1000000000) wB (by omega) (by omega) ((cell_of a0 0).trans rfl) ((cell_of a0 1).trans rfl) (free_of a0 1) b2 b3).mono ?_
    rintro e w2 ⟨rfl, hw2⟩
    have g0 : w2.heap[w.heap.size]? = some (.cells #[.int .u64 (d % 1000000000), .int .i64 (d / 1000000000), .pointer none] 56 (0, 0)) := by rw [hw2, set_same a0]; rfl
    have g1 : w2.heap[w.heap.size + 1]? = some (.cells #[.int .u64 0, .int .i64 0, .pointer none] 56 (0, 0)) := by rw [hw2, set_other _ _ (by omega)]; exact a1
    have B2 : Hid (Below w.heap.size w w2) := by rw [hw2]; exact BB.out.setCell (Nat.le_refl _) _
    have z0 : w2.cell? ⟨w.heap.size, 0, none⟩ = some (.int .u64 (d % 1000000000)) := (cell_of g0 0).trans rfl
    have z1 : w2.cell? ⟨w.heap.size, 1, none⟩ = some (.int .i64 (d / 1000000000)) := (cell_of g0 1).trans rfl
    have z2 : w2.cell? ⟨w.heap.size, 2, none⟩ = some (.pointer none) := (cell_of g0 2).trans rfl
    have y0 : w2.cell? ⟨w.heap.size + 1, 0, none⟩ = some (.int .u64 0) := (cell_of g1 0).trans rfl
    have y1 : w2.cell? ⟨w.heap.size + 1, 1, none⟩ = some (.int .i64 0) := (cell_of g1 1).trans rfl
    have y2 : w2.cell? ⟨w.heap.size + 1, 2, none⟩ = some (.pointer none) := (cell_of g1 2).trans rfl
    have fy := free_of g1
    clear hw2 a0 a1 g0 g1 c0 f0 e1 hor han
    go_wp2
    refine bodyPost_ret (v := .agg #[.int .u64 (d % 1000000000), .int .i64 (d / 1000000000), .pointer none]) (by simp [results, Try.results30, go_sem, y0, y1, y2]) rfl ⟨?_, ((B2.out.setCell (Nat.le_succ _) _).setCell (Nat.le_succ _) _).setCell (Nat.le_succ _) _⟩
    rfl
  · by_cases hr : d % 1000000000 = 0
    · have e1 := tmod_even d hr
      have e2 := tdiv_even d hr
      have hor0 := or_zero 0 (by omega) (by omega)
      have hmo0 := and_mono 0 (by omega) (by omega)
      go_wp2_with fail
      generalize hwB : w'.setCell ⟨w.heap.size, 0, none⟩ (.int .u64 (0)) = wB
      have a0 : wB.heap[w.heap.size]? = some (.cells #[.int .u64 (0), .int .i64 0, .pointer none] 56 (0, 0)) := by rw [← hwB, set_same A0.out]; rfl
      have a1 : wB.heap[w.heap.size + 1]? = some (.cells #[.int .u64 0, .int .i64 0, .pointer none] 56 (0, 0)) := by rw [← hwB, set_other _ _ (by omega)]; exact A1.out
      have BB : Hid (Below w.heap.size w wB) := by rw [← hwB]; exact BA.out.setCell (Nat.le_refl _) _
      clear hwB
      refine (addSec36 w.heap.size 0 (0) (d / 1000000000) wB (by omega) (by omega) ((cell_of a0 0).trans rfl) ((cell_of a0 1).trans rfl) (free_of a0 1) b2 b3).mono ?_
      rintro e w2 ⟨rfl, hw2⟩
      have g0 : w2.heap[w.heap.size]? = some (.cells #[.int .u64 (0), .int .i64 (d / 1000000000), .pointer none] 56 (0, 0)) := by rw [hw2, set_same a0]; rfl
      have g1 : w2.heap[w.heap.size + 1]? = some (.cells #[.int .u64 0, .int .i64 0, .pointer none] 56 (0, 0)) := by rw [hw2, set_other _ _ (by omega)]; exact a1
      have B2 : Hid (Below w.heap.size w w2) := by rw [hw2]; exact BB.out.setCell (Nat.le_refl _) _
      have z0 : w2.cell? ⟨w.heap.size, 0, none⟩ = some (.int .u64 (0)) := (cell_of g0 0).trans rfl
      have z1 : w2.cell? ⟨w.heap.size, 1, none⟩ = some (.int .i64 (d / 1000000000)) := (cell_of g0 1).trans rfl
      have z2 : w2.cell? ⟨w.heap.size, 2, none⟩ = some (.pointer none) := (cell_of g0 2).trans rfl
      have y0 : w2.cell? ⟨w.heap.size + 1, 0, none⟩ = some (.int .u64 0) := (cell_of g1 0).trans rfl
      have y1 : w2.cell? ⟨w.heap.size + 1, 1, none⟩ = some (.int .i64 0) := (cell_of g1 1).trans rfl
      have y2 : w2.cell? ⟨w.heap.size + 1, 2, none⟩ = some (.pointer none) := (cell_of g1 2).trans rfl
      have fy := free_of g1
      clear hw2 a0 a1 g0 g1 c0 f0 e1 e2 hor han hor0
      go_wp2
      refine bodyPost_ret (v := .agg #[.int .u64 (0), .int .i64 (d / 1000000000), .pointer none]) (by simp [results, Try.results30, go_sem, y0, y1, y2]) rfl ⟨?_, ((B2.out.setCell (Nat.le_succ _) _).setCell (Nat.le_succ _) _).setCell (Nat.le_succ _) _⟩
      rw [hr]
    · have e1 := tmod_neg d (by omega) hr
      have e2 := tdiv_neg d (by omega) hr
      go_wp2_with fail
      generalize hwB : w'.setCell ⟨w.heap.size, 0, none⟩ (.int .u64 (d % 1000000000)) = wB
      have a0 : wB.heap[w.heap.size]? = some (.cells #[.int .u64 (d % 1000000000), .int .i64 0, .pointer none] 56 (0, 0)) := by rw [← hwB, set_same A0.out]; rfl
      have a1 : wB.heap[w.heap.size + 1]? = some (.cells #[.int .u64 0, .int .i64 0, .pointer none] 56 (0, 0)) := by rw [← hwB, set_other _ _ (by omega)]; exact A1.out
      have BB : Hid (Below w.heap.size w wB) := by rw [← hwB]; exact BA.out.setCell (Nat.le_refl _) _
      clear hwB
      refine (addSec36 w.heap.size 0 (d % 1000000000) (d / 1000000000) wB (by omega) (by omega) ((cell_of a0 0).trans rfl) ((cell_of a0 1).trans rfl) (free_of a0 1) b2 b3).mono ?_
      rintro e w2 ⟨rfl, hw2⟩
      have g0 : w2.heap[w.heap.size]? = some (.cells #[.int .u64 (d % 1000000000), .int .i64 (d / 1000000000), .pointer none] 56 (0, 0)) := by rw [hw2, set_same a0]; rfl
      have g1 : w2.heap[w.heap.size + 1]? = some (.cells #[.int .u64 0, .int .i64 0, .pointer none] 56 (0, 0)) := by rw [hw2, set_other _ _ (by omega)]; exact a1
      have B2 : Hid (Below w.heap.size w w2) := by rw [hw2]; exact BB.out.setCell (Nat.le_refl _) _
      have z0 : w2.cell? ⟨w.heap.size, 0, none⟩ = some (.int .u64 (d % 1000000000)) := (cell_of g0 0).trans rfl
      have z1 : w2.cell? ⟨w.heap.size, 1, none⟩ = some (.int .i64 (d / 1000000000)) := (cell_of g0 1).trans rfl
      have z2 : w2.cell? ⟨w.heap.size, 2, none⟩ = some (.pointer none) := (cell_of g0 2).trans rfl
      have y0 : w2.cell? ⟨w.heap.size + 1, 0, none⟩ = some (.int .u64 0) := (cell_of g1 0).trans rfl
      have y1 : w2.cell? ⟨w.heap.size + 1, 1, none⟩ = some (.int .i64 0) := (cell_of g1 1).trans rfl
      have y2 : w2.cell? ⟨w.heap.size + 1, 2, none⟩ = some (.pointer none) := (cell_of g1 2).trans rfl
      have fy := free_of g1
      clear hw2 a0 a1 g0 g1 c0 f0 e1 e2 hor han
      go_wp2
      refine bodyPost_ret (v := .agg #[.int .u64 (d % 1000000000), .int .i64 (d / 1000000000), .pointer none]) (by simp [results, Try.results30, go_sem, y0, y1, y2]) rfl ⟨?_, ((B2.out.setCell (Nat.le_succ _) _).setCell (Nat.le_succ _) _).setCell (Nat.le_succ _) _⟩
      rfl
end Go.Proofs.Qxb6605955a

import Derived.Test.Qxb6605831aWriteAll
import Derived.Deep.QuietTactic
import Derived.BigQuiet
namespace Go.Proofs.Qxb6605831a
open Go.RowKit

theorem recsTo_length (S : Nat → Stamp) : ∀ k, (recsTo S k).length = k * 7
  | 0 => rfl
  | k + 1 => by simp only [recsTo, List.length_append, recsTo_length S k, recCells, List.length_cons, List.length_nil]; omega
theorem recsTo_get (S : Nat → Stamp) : ∀ (k i j : Nat), i < k → j < 7 → (recsTo S k)[i * 7 + j]? = (recCells (S i) (sumTo (lens S) i))[j]?
  | 0, i, j, h, _ => absurd h (Nat.not_lt_zero _)
  | k + 1, i, j, h, hj => by
    by_cases e : i = k
    · subst e
      simp only [recsTo]
      rw [List.getElem?_append_right (by rw [recsTo_length]; omega), recsTo_length]
      congr 1; omega
    · simp only [recsTo]
      rw [List.getElem?_append_left (by rw [recsTo_length]; omega)]
      exact recsTo_get S k i j (by omega) hj
theorem bytsTo_length (S : Nat → Stamp) : ∀ k, (bytsTo S k).length = sumTo (lens S) k
  | 0 => rfl
  | k + 1 => by simp only [bytsTo, List.length_append, bytsTo_length S k, byteCells_length, sumTo, lens]
theorem bytsTo_get (S : Nat → Stamp) : ∀ (k i j : Nat), i < k → j < (S i).len → (bytsTo S k)[sumTo (lens S) i + j]? = some (.int .u8 ((S i).bytes j))
  | 0, i, j, h, _ => absurd h (Nat.not_lt_zero _)
  | k + 1, i, j, h, hj => by
    by_cases e : i = k
    · subst e
      simp only [bytsTo]
      rw [List.getElem?_append_right (by rw [bytsTo_length]; omega), bytsTo_length]
      rw [show sumTo (lens S) i + j - sumTo (lens S) i = j by omega]
      simp [byteCells, hj]
    · simp only [bytsTo]
      have := lens_lt S (show i + 1 ≤ k by omega) hj
      rw [List.getElem?_append_left (by rw [bytsTo_length]; omega)]
      exact bytsTo_get S k i j (by omega) hj
where
  lens_lt (S : Nat → Stamp) {i k j : Nat} (h : i + 1 ≤ k) (hj : j < (S i).len) : sumTo (lens S) i + j < sumTo (lens S) k := by
    have := sumTo_mono (lens S) h
    have e : sumTo (lens S) (i + 1) = sumTo (lens S) i + (S i).len := rfl
    omega

set_option maxRecDepth 100000 in
set_option maxHeartbeats 800000 in
/-- ZZPageRecord: the record's seven fields. -/
theorem rec32 (pb g n cap i : Nat) (k0 k1 k2 : Int) (k3 k4 k5 k6 : Int) (w : World) (hi : i < n) (h0 : w.cell? ⟨pb, 0, none⟩ = some (.slice (some ⟨g, 0, none⟩) n cap))
    (x0 : w.cell? ⟨g, i * 7, none⟩ = some (.int .u8 k0)) (x1 : w.cell? ⟨g, i * 7 + 1, none⟩ = some (.int .u8 k1)) (x2 : w.cell? ⟨g, i * 7 + 2, none⟩ = some (.int .u8 k2)) (x3 : w.cell? ⟨g, i * 7 + 3, none⟩ = some (.int .u32 k3))
    (x4 : w.cell? ⟨g, i * 7 + 4, none⟩ = some (.int .i64 k4)) (x5 : w.cell? ⟨g, i * 7 + 5, none⟩ = some (.int .i64 k5)) (x6 : w.cell? ⟨g, i * 7 + 6, none⟩ = some (.int .i64 k6)) :
    Calls Try.prog 32 #[.pointer (some ⟨pb, 0, none⟩), .int .i64 i] w fun e w' => e = .returned (.tuple #[.int .u8 k0, .int .u8 k1, .int .u8 k2, .int .u32 k3, .int .i64 k4, .int .i64 k5, .int .i64 k6]) ∧ Below w.heap.size w w' := by
  go_enter Try.func32, Try.ntmps32
  go_wp2
  go_quiet (fail)
  go_wp2
  refine bodyPost_ret (v := .tuple #[.int .u8 k0, .int .u8 k1, .int .u8 k2, .int .u32 k3, .int .i64 k4, .int .i64 k5, .int .i64 k6]) (by simp [results, Try.results32, go_sem]) rfl ⟨rfl, ?_⟩
  have h := (Below.refl w.heap.size w).alloc (Nat.le_refl _) (.cells #[.int .u8 k0, .int .u8 k1, .int .u8 k2, .int .u32 k3, .int .i64 k4, .int .i64 k5, .int .i64 k6] 111)
  exact ⟨h.os, h.tape, h.output, h.size, h.block⟩

/-- The page holds the stamps: the records and the bytes, each in a row of its own. -/
structure Held (w : World) (pb n : Nat) (S : Nat → Stamp) : Prop where
  page : ∃ B recV bp mc vio err, w.heap[pb]? = some (.cells #[recV, .slice bp (sumTo (lens S) n) mc, vio, err] 99 (0, 0)) ∧ w.ownsRow B 111 7 recV n (recsTo S n) ∧ w.ownsRow B 5 1 (.slice bp (sumTo (lens S) n) mc) (sumTo (lens S) n) (bytsTo S n)

theorem rec_cells {w : World} {B g n rc k : Nat} {S : Nat → Stamp} (h : w.ownsRow B 111 7 (.slice (some ⟨g, 0, none⟩) n rc) n (recsTo S n)) (hk : k < n) :
    w.cell? ⟨g, k * 7, none⟩ = some (.int .u8 0) ∧ w.cell? ⟨g, k * 7 + 1, none⟩ = some (.int .u8 (S k).typ) ∧ w.cell? ⟨g, k * 7 + 2, none⟩ = some (.int .u8 (S k).lsn) ∧ w.cell? ⟨g, k * 7 + 3, none⟩ = some (.int .u32 (S k).spi) ∧
    w.cell? ⟨g, k * 7 + 4, none⟩ = some (.int .i64 (S k).frame) ∧ w.cell? ⟨g, k * 7 + 5, none⟩ = some (.int .i64 (sumTo (lens S) k : Nat)) ∧ w.cell? ⟨g, k * 7 + 6, none⟩ = some (.int .i64 (((sumTo (lens S) k : Nat) : Int) + ((S k).len : Int))) := by
  have key : ∀ j, j < 7 → w.cell? ⟨g, k * 7 + j, none⟩ = (recCells (S k) (sumTo (lens S) k))[j]? := fun j hj => by
    rw [h.cellAt (k * 7 + j) (by omega)]
    exact recsTo_get S n k j hk hj
  refine ⟨key 0 (by omega), key 1 (by omega), key 2 (by omega), key 3 (by omega), key 4 (by omega), key 5 (by omega), ?_⟩
  rw [key 6 (by omega), ← Int.natCast_add]
  rfl

theorem drewN_below {B : Nat} {w w' : World} (h : Below B w w') (n : Nat) : Below B w (w'.drewN n) := ⟨h.os, h.tape, h.output, h.size, h.block⟩

set_option maxRecDepth 100000 in
set_option maxHeartbeats 3200000 in
theorem holds16 (pb n c : Nat) (q : Option Addr) (S : Nat → Stamp) (w : World) (hn : n ≤ 511) (hs : sumTo (lens S) n ≤ 65535) (hH : Held w pb n S) (hst : Stamps w q n S) :
    Calls Try.prog 16 #[.pointer (some ⟨pb, 0, none⟩), .slice q n c] w fun e w' => e = .returned (.bool true) ∧ Below w.heap.size w w' := by
  obtain ⟨B, recV, bp, mc, vio, err, hp, hr, hb⟩ := hH.page
  obtain ⟨rp, rc, rfl⟩ := own_form hr
  have p0 : w.cell? ⟨pb, 0, none⟩ = some (.slice rp n rc) := (cell_of hp 0).trans rfl
  have p1 : w.cell? ⟨pb, 1, none⟩ = some (.slice bp (sumTo (lens S) n) mc) := (cell_of hp 1).trans rfl
  have hpl : pb < w.heap.size := lt_of hp
  have HS := hide hs; have HR := hide hr; have HB := hide hb; have HST := hide hst
  have P0 := hide p0
  clear hp hr hb hst hH hs
  go_enter Try.func16, Try.ntmps16
  go_wp2_with fail
  refine (len17 pb rp n rc w p0).mono ?_
  rintro e w' ⟨rfl, rfl⟩
  go_wp2_with fail
  refine (bytes18 pb _ w' p1).mono ?_
  rintro e w ⟨rfl, rfl⟩
  clear p0 p1
  go_wp2
  go_loopw [6, 30] (fun p i wr => ∃ (k : Nat), k ≤ n ∧ i = .int .i64 k ∧ p = .int .i64 (sumTo (lens S) k : Nat) ∧ Below w.heap.size w wr) (fun _ i _ => n - (intOf i).toNat)
  case atStart => exact ⟨0, Nat.zero_le _, rfl, rfl, Below.refl _ _⟩
  case round =>
    obtain ⟨k, hk, rfl, rfl, hbel⟩ := hrel
    have HBEL := hide hbel
    by_cases hlt : k < n
    · obtain ⟨g, rc', e, _, _⟩ := HR.out.form (by omega)
      simp only [Value.slice.injEq, true_and] at e
      obtain ⟨rfl, rfl⟩ := e
      obtain ⟨x0, x1, x2, x3, x4, x5, x6⟩ := rec_cells HR.out hlt
      have hgl : g < w.heap.size := World.block_lt_of_cell? _ _ x0
      have HX0 := hide (cell_kept hbel hgl x0); have HX1 := hide (cell_kept hbel hgl x1); have HX2 := hide (cell_kept hbel hgl x2); have HX3 := hide (cell_kept hbel hgl x3)
      have HX4 := hide (cell_kept hbel hgl x4); have HX5 := hide (cell_kept hbel hgl x5); have HX6 := hide (cell_kept hbel hgl x6)
      clear x0 x1 x2 x3 x4 x5 x6
      have HP0 := hide (cell_kept hbel hpl P0.out)
      clear hbel
      go_wp2_with fail
      refine (rec32 pb g n rc k _ _ _ _ _ _ _ wr hlt HP0.out HX0.out HX1.out HX2.out HX3.out HX4.out HX5.out HX6.out).mono ?_
      rintro e w1 ⟨rfl, hb1⟩
      clear HX0 HX1 HX2 HX3 HX4 HX5 HX6 HP0
      have hbel1 : Below w.heap.size w w1 := HBEL.out.trans (hb1.mono HBEL.out.size)
      obtain ⟨b, off, p, pc, rfl, ⟨d0, d1, d2, d3, d4⟩, hby⟩ := HST.out.2 k hlt
      have hbl : b < w.heap.size := World.block_lt_of_cell? _ _ d0
      replace d0 := cell_kept hbel1 hbl d0
      replace d1 := cell_kept hbel1 hbl d1
      replace d2 := cell_kept hbel1 hbl d2
      replace d3 := cell_kept hbel1 hbl d3
      replace d4 := cell_kept hbel1 hbl d4
      have HBY := hide hby
      have hsum : sumTo (lens S) k + (S k).len ≤ sumTo (lens S) n := sumTo_mono (lens S) (show k + 1 ≤ n by omega)
      have t1 : ((sumTo (lens S) k : Nat) : Int) + ((S k).len : Int) ≤ ((sumTo (lens S) n : Nat) : Int) := by omega
      have t2 : ((sumTo (lens S) n : Nat) : Int) ≤ 65535 := by have := HS.out; omega
      have HB1 := hide hbel1
      clear hby hb1 hbel1 hsum
      go_wp2_with (go_at_call 33; refine (stamp33 _).mono ?_; rintro e w' ⟨rfl, rfl⟩)
      clear d0 d1 d2 d3 d4
      go_loopw [16] (fun j wx => ∃ (l : Nat), l ≤ (S k).len ∧ j = .int .i64 l ∧ Below w.heap.size w wx) (fun j _ => (S k).len - (intOf j).toNat)
      case atStart => exact ⟨0, Nat.zero_le _, rfl, HB1.out⟩
      case round =>
        obtain ⟨l, hl, rfl, hbx⟩ := hrel
        have HBX := hide hbx
        by_cases hll : l < (S k).len
        · obtain ⟨gb, mc', e, _, _⟩ := HB.out.form (by have := sumTo_mono (lens S) (show k + 1 ≤ n by omega); have e : sumTo (lens S) (k + 1) = sumTo (lens S) k + (S k).len := rfl; omega)
          simp only [Value.slice.injEq, true_and] at e
          obtain ⟨rfl, rfl⟩ := e
          have y0 : w.cell? ⟨gb, sumTo (lens S) k + l, none⟩ = some (.int .u8 ((S k).bytes l)) := by
            rw [HB.out.cellAt _ (by omega)]
            exact bytsTo_get S n k l hlt hll
          replace y0 := cell_kept hbx (World.block_lt_of_cell? _ _ y0) y0
          obtain ⟨vb, voff, rfl, y1⟩ := HBY.out.2 l hll
          replace y1 := cell_kept hbx (World.block_lt_of_cell? _ _ y1) y1
          have j0 : (0 : Int) ≤ ((sumTo (lens S) k : Nat) : Int) + (l : Int) := by omega
          have j1 : ((sumTo (lens S) k : Nat) : Int) + (l : Int) < ((sumTo (lens S) n : Nat) : Int) := by omega
          have j2 : (l : Int) < ((S k).len : Int) := by omega
          clear hbx
          go_wp2
          go_quiet (fail)
          go_wp2
          go_roundw
          case rel => exact ⟨l + 1, by omega, by go_num, drewN_below HBX.out _⟩
          case measure => simp [intOf]; omega
        · clear hbx
          go_wp2
          go_roundw
          case rel => exact ⟨k + 1, by omega, by go_num, by simp [sumTo, lens], HBX.out⟩
          case measure => simp [intOf]; omega
    · obtain rfl : k = n := by omega
      clear hbel
      go_wp2
      go_ret
      exact ⟨rfl, HBEL.out⟩
end Go.Proofs.Qxb6605831a

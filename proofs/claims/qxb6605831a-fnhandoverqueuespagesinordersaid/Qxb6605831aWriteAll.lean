import Derived.Test.Qxb6605831aWrite
import Derived.Deep.DrawnRows
namespace Go.Proofs.Qxb6605831a
open Go.RowKit
attribute [local go_sem ↓] Go.wp_at_zero Go.wp_at_succ

def lens (S : Nat → Stamp) : Nat → Nat := fun i => (S i).len
/-- The records of the first k stamps; their bytes. -/
def recsTo (S : Nat → Stamp) : Nat → List Value
  | 0 => []
  | k + 1 => recsTo S k ++ recCells (S k) (sumTo (lens S) k)
def bytsTo (S : Nat → Stamp) : Nat → List Value
  | 0 => []
  | k + 1 => bytsTo S k ++ byteCells (S k).len (S k).bytes
theorem sumTo_mono (L : Nat → Nat) : ∀ {a b : Nat}, a ≤ b → sumTo L a ≤ sumTo L b := by
  intro a b h
  induction h with
  | refl => exact Nat.le_refl _
  | step _ ih => exact Nat.le_trans ih (Nat.le_add_right _ _)

/-- What the loop has written so far. -/
structure Wrote (B : Nat) (w : World) (wb pb : Nat) (spare : Value) (infl given handed : Int) (tb fb sb rb : Nat) (S : Nat → Stamp) (k : Nat) (wr : World) : Prop where
  fill : ∃ recV bp mc, Filling B wr wb pb spare infl (given + k) handed tb fb sb rb recV bp mc k (recsTo S k) (sumTo (lens S) k) (bytsTo S k)
  frame : FrB B [wb, pb] w wr

theorem FrB.below {B B0 wb pb : Nat} {w w' : World} (h : FrB B [wb, pb] w w') (h0 : B0 ≤ B) (h1 : B0 ≤ wb) (h2 : B0 ≤ pb) : Below B0 w w' :=
  ⟨h.os, h.tape, h.output, h.size, fun k hk => h.block k (by omega) (by simp; omega)⟩

set_option maxRecDepth 100000 in
set_option maxHeartbeats 3200000 in
theorem all11 (B wb pb : Nat) (spare : Value) (infl given handed : Int) (tb fb sb rb : Nat) (a : Option Addr) (n c : Nat) (S : Nat → Stamp) (w w0 : World)
    (hn : n ≤ 511) (hs : sumTo (lens S) n ≤ 65535) (hg0 : 0 ≤ given) (hg1 : given ≤ 4611686018427388000)
    (hW : Wrote B w wb pb spare infl given handed tb fb sb rb S 0 w) (hst : Stamps w0 a n S) (hbel : Below w0.heap.size w0 w) (h0 : w0.heap.size ≤ B) (h1 : w0.heap.size ≤ wb) (h2 : w0.heap.size ≤ pb) :
    Calls Try.prog 11 #[ptr wb, .slice a n c] w fun e w' => e = .returned (.bool true) ∧ Wrote B w wb pb spare infl given handed tb fb sb rb S n w' := by
  have HST := hide hst; clear hst
  have HS := hide hs; clear hs
  have HW := hide hW; clear hW
  have HBEL : Hid (∀ w', FrB B [wb, pb] w w' → Below w0.heap.size w0 w') := fun w' h => hbel.trans (h.below h0 h1 h2)
  clear hbel
  show Calls Try.prog 11 #[.pointer (some ⟨wb, 0, none⟩), _] _ _
  go_enter Try.func11, Try.ntmps11
  go_wp2
  go_loopw [8] (fun i wr => ∃ (k : Nat), k ≤ n ∧ i = .int .i64 k ∧ Wrote B w wb pb spare infl given handed tb fb sb rb S k wr) (fun i _ => n - (intOf i).toNat)
  case atStart => exact ⟨0, Nat.zero_le _, rfl, HW.out⟩
  case round =>
    obtain ⟨k, hk, rfl, hK⟩ := hrel
    by_cases hlt : k < n
    · obtain ⟨b, off, p, pc, rfl, ⟨d0, d1, d2, d3, d4⟩, hby⟩ := HST.out.2 k hlt
      have hb : b < w0.heap.size := World.block_lt_of_cell? _ _ d0
      have hbl := HBEL.out _ hK.frame
      have c0 := cell_kept hbl hb d0
      have c1 := cell_kept hbl hb d1
      have c2 := cell_kept hbl hb d2
      have c3 := cell_kept hbl hb d3
      have c4 := cell_kept hbl hb d4
      have HBY : Hid (Bytes wr p (S k).len (S k).bytes) := hby.later hbl
      have D0 := hide d0; have D1 := hide d1; have D2 := hide d2; have D3 := hide d3; have D4 := hide d4
      clear hby hbl d0 d1 d2 d3 d4
      obtain ⟨⟨recV, bp, mc, hF⟩, hfr⟩ := hK
      have HF := hide hF; clear hF
      have HFR := hide hfr; clear hfr
      have hsum : sumTo (lens S) k + (S k).len ≤ 65535 := Nat.le_trans (sumTo_mono (lens S) (show k + 1 ≤ n by omega)) HS.out
      have HSUM := hide hsum; clear hsum
      have i0 : (0 : Int) ≤ (k : Int) := by omega
      have i1 : (k : Int) < (n : Int) := by omega
      have hk5 : k < 511 := by omega
      have HFD : Hid (Filling B wr.drew wb pb spare infl (given + k) handed tb fb sb rb recV bp mc k (recsTo S k) (sumTo (lens S) k) (bytsTo S k)) := ⟨HF.out.writer, HF.out.page, HF.out.recs.drew, HF.out.byts.drew, HF.out.base⟩
      have HBYD : Hid (Bytes wr.drew p (S k).len (S k).bytes) := HBY.out.same fun _ _ => rfl
      go_wp2_with fail
      go_region_held3 (fun w' => w'.cell? ⟨b, off + k * 5, none⟩ = some (.int .u32 (S k).spi) ∧ w'.cell? ⟨b, off + k * 5 + 1, none⟩ = some (.int .u8 (S k).lsn) ∧ w'.cell? ⟨b, off + k * 5 + 2, none⟩ = some (.int .i64 (S k).frame) ∧ w'.cell? ⟨b, off + k * 5 + 3, none⟩ = some (.int .u8 (S k).typ) ∧ w'.cell? ⟨b, off + k * 5 + 4, none⟩ = some (.slice p (S k).len pc))
        (first | go_keep | exact keep1)
        (first | (go_at_call 30; refine (write30 B wb pb spare infl (given + k) handed tb fb sb rb recV bp mc k (sumTo (lens S) k) (recsTo S k) (bytsTo S k) (S k) p pc wr.drew hk5 HSUM.out (by omega) (by omega) HFD.out HBYD.out).mono ?_; rintro e w1 ⟨recV', bp', mc', rfl, hF1, hfr1⟩; have hbl1 := HBEL.out w1 (HFR.out.trans ⟨hfr1.os, hfr1.tape, hfr1.output, hfr1.size, hfr1.block⟩); have keep1 := And.intro (cell_kept hbl1 hb D0.out) (And.intro (cell_kept hbl1 hb D1.out) (And.intro (cell_kept hbl1 hb D2.out) (And.intro (cell_kept hbl1 hb D3.out) (cell_kept hbl1 hb D4.out))))))
      have hW1 : Wrote B w wb pb spare infl given handed tb fb sb rb S (k + 1) w1 :=
        ⟨⟨recV', bp', mc', by rw [show given + ((k + 1 : Nat) : Int) = given + (k : Int) + 1 from by omega]; exact hF1⟩, HFR.out.trans ⟨hfr1.os, hfr1.tape, hfr1.output, hfr1.size, hfr1.block⟩⟩
      have HW1 := hide hW1
      clear hW1 hF1 hfr1 hbl1 keep1 c0 c1 c2 c3 c4
      go_wp2
      go_roundw
      case rel => exact ⟨k + 1, by omega, by go_num, HW1.out⟩
      case measure => simp [intOf]; omega
    · obtain rfl : k = n := by omega
      have HK := hide hK; clear hK
      go_wp2
      go_ret
      exact ⟨rfl, HK.out⟩
end Go.Proofs.Qxb6605831a

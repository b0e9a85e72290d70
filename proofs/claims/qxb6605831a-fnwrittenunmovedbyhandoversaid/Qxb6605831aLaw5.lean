import Derived.Test.Qxb6605831aWriteAll
namespace Go.Proofs.Qxb6605831a
open Go.RowKit

theorem lens_le (S : Nat → Stamp) : ∀ {n i : Nat}, i < n → (S i).len ≤ sumTo (lens S) n := by
  intro n i h
  have := sumTo_mono (lens S) (show i + 1 ≤ n by omega)
  have e : sumTo (lens S) (i + 1) = sumTo (lens S) i + (S i).len := rfl
  omega

/-- The page is as 'new' left it: nothing is written yet. -/
theorem wrote0 {w : World} {wb pb : Nat} {spare : Value} {infl given handed : Int} {tb fb sb rb : Nat} (S : Nat → Stamp)
    (hw : w.heap[wb]? = some (.cells (wcells (ptr pb) spare infl given handed tb fb sb rb) 95 (0, 0))) (hp : w.heap[pb]? = some (.cells page0 99 (0, 0))) :
    Wrote w.heap.size w wb pb spare infl given handed tb fb sb rb S 0 w :=
  ⟨⟨.slice none 0 0, none, 0, by
    refine ⟨?_, hp, World.ownsRow_nil _ _ _ _, World.ownsRow_nil _ _ _ _, Nat.le_refl _⟩
    simpa using hw⟩, FrB.refl _ _ _⟩

set_option maxRecDepth 100000 in
set_option maxHeartbeats 3200000 in
theorem law5 (given written : Int) (a : Option Addr) (n c : Nat) (S : Nat → Stamp) (w : World) (hn : n ≤ maxLen) (hl : ∀ i, i < n → (S i).len ≤ maxLen) (hst : Stamps w a n S) :
    Calls Try.prog 5 #[.int .i64 given, .int .i64 written, .slice a n c] w fun e w' => e = .returned (.bool true) ∧ Below w.heap.size w w' := by
  have HST := hide hst; have HL := hide hl; have HN := hide hn
  clear hst hl hn
  go_enter Try.func5, Try.ntmps5
  go_wp2_with fail
  refine (bytes24 _ _ a n c HN.out (lens S) w (HST.out.lens HL.out)).mono ?_
  rintro e w' ⟨⟨x, rfl⟩, rfl⟩
  cases x
  · go_wp2
    go_ret
    exact ⟨rfl, Below.refl _ _⟩
  go_wp2_with fail
  refine (fit8 a n c HN.out (lens S) w' (HST.out.lens HL.out)).mono ?_
  rintro e w ⟨⟨x, rfl, hx⟩, rfl⟩
  cases x
  · go_wp2
    go_ret
    exact ⟨rfl, Below.refl _ _⟩
  obtain ⟨hn, hs⟩ := hx rfl
  have HS := hide hs; clear hs hx
  by_cases hg1 : written < 0
  · go_wp2
    go_ret
    exact ⟨rfl, Below.refl _ _⟩
  by_cases hg2 : 2147483647 < written
  · go_wp2
    go_ret
    exact ⟨rfl, Below.refl _ _⟩
  by_cases hg3 : given < written
  · go_wp2
    go_ret
    exact ⟨rfl, Below.refl _ _⟩
  by_cases hg4 : 4611686018427387904 < given
  · go_wp2
    go_ret
    exact ⟨rfl, Below.refl _ _⟩
  go_wp2_with fail
  refine (clone9 a n c S w (by omega) (fun i hi => Nat.le_trans (lens_le S hi) (Nat.le_trans HS.out (by omega))) HST.out).mono ?_
  rintro e w1 ⟨q, m, rfl, hq, hb1⟩
  have HQ := hide hq; have HB1 := hide hb1; clear hq hb1 HST HL HN
  go_wp2_with fail
  refine (new10 given written w1).mono ?_
  rintro e w2 ⟨wb, p0, p1, p2, p3, spb, cap, tb, fb, sb, rb, rfl, hW, hp3, hb2⟩
  obtain ⟨z2, hz1, hz2⟩ := hW.runner
  have c9 : w2.cell? ⟨wb, 9, none⟩ = some (.pointer (some ⟨rb, 0, none⟩)) := (cell_of hW.writer 9).trans rfl
  have cr : w2.cell? ⟨rb, 220, none⟩ = some (.int .i64 written) := (cell_of hz1 220).trans hz2
  have HW := hide hW; have HP3 := hide hp3; have HB2 := hide hb2; have HZ1 := hide hz1; have HZ2 := hide hz2
  clear hW hp3 hb2 hz1 hz2
  simp only [ptr]
  go_wp2_with fail
  refine (written25 wb rb written w2 c9 cr).mono ?_
  rintro e w2' ⟨rfl, rfl⟩
  clear c9 cr
  go_wp2_with fail
  refine (all11 w2'.heap.size wb p3 _ 0 given given tb fb sb rb q n m S w2' w1 hn HS.out (by omega) (by omega) (wrote0 S HW.out.writer HP3.out) HQ.out HB2.out HB2.out.size HW.out.bounds.1 HW.out.bounds.2.2.2.2).mono ?_
  rintro e w3 ⟨rfl, hw3⟩
  obtain ⟨⟨recV, bp, mc, hF⟩, hfr⟩ := hw3
  have hwr := hF.writer
  have hrun : w3.heap[rb]? = some (.cells z2 89 (0, 0)) := (hfr.block rb (lt_of HZ1.out) (by simp; exact ⟨ne_of_types HZ1.out HW.out.writer (by decide), ne_of_types HZ1.out HP3.out (by decide)⟩)).trans HZ1.out
  have hch : w3.heap[tb]? = some (.chan 4 #[] false 0 0 false) := (hfr.block tb (lt_of HW.out.chan) (by
    simp
    refine ⟨?_, ?_⟩ <;> rintro rfl
    · have := HW.out.chan; rw [HW.out.writer] at this; simp at this
    · have := HW.out.chan; rw [HP3.out] at this; simp at this)).trans HW.out.chan
  have c9 : w3.cell? ⟨wb, 9, none⟩ = some (.pointer (some ⟨rb, 0, none⟩)) := (cell_of hwr 9).trans rfl
  have cr : w3.cell? ⟨rb, 220, none⟩ = some (.int .i64 written) := (cell_of hrun 220).trans HZ2.out
  have c3 : w3.cell? ⟨wb, 3, none⟩ = some (.int .i64 (given + n)) := (cell_of hwr 3).trans rfl
  have c4 : w3.cell? ⟨wb, 4, none⟩ = some (.int .i64 given) := (cell_of hwr 4).trans rfl
  have c6 : w3.cell? ⟨wb, 6, none⟩ = some (.chan (some tb)) := (cell_of hwr 6).trans rfl
  have HEND : Hid (Below w.heap.size w w3) := HB1.out.trans ((HB2.out.trans (hfr.below HB2.out.size HW.out.bounds.1 HW.out.bounds.2.2.2.2)).mono HB1.out.size)
  have HCH := hide hch
  clear hwr hrun hch hF hfr HZ1 HZ2 HP3 HB2 HB1 HW
  go_wp2_with fail
  refine (written25 wb rb written w3 c9 cr).mono ?_
  rintro e w3' ⟨rfl, rfl⟩
  go_wp2_with fail
  refine (given20 wb _ w3' c3).mono ?_
  rintro e w3 ⟨rfl, rfl⟩
  go_wp2_with fail
  refine (handed21 wb _ w3 c4).mono ?_
  rintro e w3' ⟨rfl, rfl⟩
  go_wp2_with fail
  refine (queued14 wb tb 4 #[] false 0 0 w3' c6 HCH.out).mono ?_
  rintro e w3 ⟨rfl, rfl⟩
  go_wp2
  go_ret
  exact ⟨rfl, HEND.out⟩
end Go.Proofs.Qxb6605831a

import Derived.Test.Qxb6605831aLaw5
import Derived.Test.Qxb6605831aState
namespace Go.Proofs.Qxb6605831a
open Go.RowKit

set_option maxRecDepth 100000 in
set_option maxHeartbeats 3200000 in
theorem law3 (given : Int) (a : Option Addr) (n c : Nat) (S : Nat → Stamp) (w : World) (hn : n ≤ maxLen) (hl : ∀ i, i < n → (S i).len ≤ maxLen) (hst : Stamps w a n S) :
    Calls Try.prog 3 #[.int .i64 given, .slice a n c] w fun e w' => e = .returned (.bool true) ∧ Below w.heap.size w w' := by
  have HST := hide hst; have HL := hide hl; have HN := hide hn
  clear hst hl hn
  go_enter Try.func3, Try.ntmps3
  go_wp2_with fail
  refine (bytes7 _ a n c HN.out (lens S) w (HST.out.lens HL.out)).mono ?_
  rintro e w' ⟨⟨x, rfl⟩, rfl⟩
  cases x
  · go_wp2
    go_ret
    exact ⟨rfl, Below.refl _ _⟩
  go_wp2_with fail
  refine (fit8 a n c HN.out (lens S) w' (HST.out.lens HL.out)).mono ?_
  rintro e w ⟨⟨x, rfl, hx⟩, rfl⟩
  cases x
  · go_wp2
    go_ret
    exact ⟨rfl, Below.refl _ _⟩
  obtain ⟨hn, hs⟩ := hx rfl
  have HS := hide hs; clear hs hx
  by_cases hg1 : given < 0
  · go_wp2
    go_ret
    exact ⟨rfl, Below.refl _ _⟩
  by_cases hg4 : 4611686018427387904 < given
  · go_wp2
    go_ret
    exact ⟨rfl, Below.refl _ _⟩
  go_wp2_with fail
  refine (clone9 a n c S w (by omega) (fun i hi => Nat.le_trans (lens_le S hi) (Nat.le_trans HS.out (by omega))) HST.out).mono ?_
  rintro e w1 ⟨q, m, rfl, hq, hb1⟩
  have HQ := hide hq; have HB1 := hide hb1; clear hq hb1 HST HL HN
  go_wp2_with fail
  refine (new10 given 0 w1).mono ?_
  rintro e w2 ⟨wb, p0, p1, p2, p3, spb, cap, tb, fb, sb, rb, rfl, hW, hp3, hb2⟩
  have HW := hide hW; have HP3 := hide hp3; have HB2 := hide hb2
  clear hW hp3 hb2
  simp only [ptr]
  go_wp2_with fail
  refine (all11 w2.heap.size wb p3 _ 0 given given tb fb sb rb q n m S w2 w1 hn HS.out (by omega) (by omega) (wrote0 S HW.out.writer HP3.out) HQ.out HB2.out HB2.out.size HW.out.bounds.1 HW.out.bounds.2.2.2.2).mono ?_
  rintro e w3 ⟨rfl, hw3⟩
  have hb3 : Below w1.heap.size w1 w3 := HB2.out.trans (hw3.frame.below HB2.out.size HW.out.bounds.1 HW.out.bounds.2.2.2.2)
  obtain ⟨hW3, hH3⟩ := wstate_filled HW.out HP3.out hw3
  have HW3 := hide hW3; have HH3 := hide hH3; have HB3 := hide hb3
  obtain ⟨c0, -, -, -, -, -, -, -⟩ := wcell hW3
  clear hW3 hH3 hb3 hw3 HW HP3 HB2
  go_wp2_with fail
  refine (cur12 wb _ w3 c0).mono ?_
  rintro e w3' ⟨rfl, rfl⟩
  clear c0
  go_wp2_with fail
  refine hand13 wb w3' _ ((hand31 w1.heap.size wb p3 spb cap p2 [p0, p1] 0 (given + n) given tb fb sb rb #[] 0 0 0 w3' (by omega) (by simp) (by simp) HW3.out).mono ?_)
  rintro e w4 ⟨rfl, hW4, hfr4, hp2⟩
  refine ⟨rfl, ?_⟩
  have HB4 : Hid (Below w1.heap.size w1 w4) := HB3.out.trans (hfr4.below HB3.out.size (by have := HW3.out.bounds; simp; omega))
  have HH4 := hide (HH3.out.fr hfr4 (far_wt HW3.out))
  have hne : p2 ≠ p3 := by
    have := HW3.out.nodup
    simp at this
    omega
  obtain ⟨-, -, -, -, -, c6, -, -⟩ := wcell hW4
  have HW4 := hide hW4; have HP2 := hide hp2
  clear hW4 hfr4 HH3 HW3 HB3 hp2
  go_wp2_with fail
  refine (queued14 wb tb 4 _ false _ _ w4 c6 HW4.out.chan).mono ?_
  rintro e w4' ⟨rfl, rfl⟩
  go_wp2_with fail
  refine (recv15 wb tb 4 _ _ _ (.pointer (some ⟨p3, 0, none⟩)) w4' c6 HW4.out.chan rfl).mono ?_
  rintro e w5 ⟨rfl, hw5⟩
  obtain ⟨hW5, hfr5⟩ := wstate_recv HW4.out ((#[] : Array Value).push (ptr p3) |>.extract 1 ((#[] : Array Value).push (ptr p3)).size) (0 + 1) (0 + 1)
  rw [← hw5] at hW5 hfr5
  have HB5 : Hid (Below w1.heap.size w1 w5) := HB4.out.trans (hfr5.below HB4.out.size (by have := HW4.out.bounds; simp; omega))
  have HH5 := hide (HH4.out.fr hfr5 (far_t HW4.out))
  have HP5 : Hid (w5.heap[p2]? = some (.cells page0 99 (0, 0))) := (hfr5.block p2 (lt_of HP2.out) (by
    simp
    rintro rfl
    have := HW4.out.chan; rw [HP2.out] at this; simp at this)).trans HP2.out
  have HW5 := hide hW5
  have qn := ptr_same ⟨p3, 0, none⟩
  clear hW5 hfr5 hw5 c6 HH4 HB4 HW4 HP2
  go_wp2_with fail
  refine (holds16 p3 n m q S w5 hn HS.out HH5.out (HQ.out.later HB5.out)).mono ?_
  rintro e w6 ⟨rfl, hb6⟩
  clear qn
  have cell6 : ∀ {b o : Nat} {v : Value}, w5.cell? ⟨b, o, none⟩ = some v → w6.cell? ⟨b, o, none⟩ = some v := fun h => cell_kept hb6 (World.block_lt_of_cell? _ _ h) h
  obtain ⟨c0, c1, c2, c3, c4, -, -, -⟩ := wcell HW5.out
  replace c0 := cell6 c0
  replace c1 := cell6 c1
  replace c2 := cell6 c2
  replace c3 := cell6 c3
  replace c4 := cell6 c4
  have g2 : w6.heap[p2]? = some (.cells page0 99 (0, 0)) := (hb6.block _ (lt_of HP5.out)).trans HP5.out
  have g3 : ∃ cs, w6.heap[p3]? = some (.cells cs 99 (0, 0)) := by
    obtain ⟨_, _, _, _, _, _, h, _⟩ := HH5.out.page
    exact ⟨_, (hb6.block _ (lt_of h)).trans h⟩
  obtain ⟨cs3, g3⟩ := g3
  have qe := ptr_other hne g2 g3
  have l0 : w6.cell? ⟨p2, 0, none⟩ = some (.slice none 0 0) := (cell_of g2 0).trans rfl
  have l1 : w6.cell? ⟨p2, 1, none⟩ = some (.slice none 0 0) := (cell_of g2 1).trans rfl
  have HEND : Hid (Below w.heap.size w w6) := HB1.out.trans ((HB5.out.trans (hb6.mono HB5.out.size)).mono HB1.out.size)
  clear cell6 hb6 HW5 HH5 HB5 g2 g3 HP5
  go_wp2_with fail
  refine (cur12 wb _ w6 c0).mono ?_
  rintro e w6' ⟨rfl, rfl⟩
  go_wp2_with fail
  refine (len17 p2 none 0 0 w6' l0).mono ?_
  rintro e w6 ⟨rfl, rfl⟩
  go_wp2_with fail
  refine (bytes18 p2 _ w6 l1).mono ?_
  rintro e w6' ⟨rfl, rfl⟩
  clear qe l0 l1 c0
  go_wp2_with fail
  refine (flight19 wb _ w6' c2).mono ?_
  rintro e w6 ⟨rfl, rfl⟩
  go_wp2_with fail
  refine (given20 wb _ w6 c3).mono ?_
  rintro e w6' ⟨rfl, rfl⟩
  go_wp2_with fail
  refine (handed21 wb _ w6' c4).mono ?_
  rintro e w6 ⟨rfl, rfl⟩
  go_wp2_with fail
  refine (spare22 wb _ _ _ w6 c1).mono ?_
  rintro e w6' ⟨rfl, rfl⟩
  go_wp2
  go_ret
  exact ⟨rfl, HEND.out⟩
end Go.Proofs.Qxb6605831a

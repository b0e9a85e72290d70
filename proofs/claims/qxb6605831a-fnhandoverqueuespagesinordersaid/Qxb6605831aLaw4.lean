import Derived.Test.Qxb6605831aLaw5
import Derived.Test.Qxb6605831aState
namespace Go.Proofs.Qxb6605831a
open Go.RowKit

theorem FrB.fr {X : List Nat} {w w' : World} (h : FrB w.heap.size X w w') : Fr X w w' := ⟨h.os, h.tape, h.output, h.size, h.block⟩

set_option maxRecDepth 100000 in
set_option maxHeartbeats 6400000 in
theorem law4 (a : Option Addr) (n c : Nat) (S : Nat → Stamp) (a' : Option Addr) (n' c' : Nat) (S' : Nat → Stamp) (w : World) (hn : n ≤ maxLen) (hl : ∀ i, i < n → (S i).len ≤ maxLen) (hst : Stamps w a n S) (hn' : n' ≤ maxLen) (hl' : ∀ i, i < n' → (S' i).len ≤ maxLen) (hst' : Stamps w a' n' S') :
    Calls Try.prog 4 #[.slice a n c, .slice a' n' c'] w fun e w' => e = .returned (.bool true) ∧ Below w.heap.size w w' := by
  have HST := hide hst; have HL := hide hl; have HN := hide hn
  have HST' := hide hst'; have HL' := hide hl'; have HN' := hide hn'
  clear hst hl hn hst' hl' hn'
  go_enter Try.func4, Try.ntmps4
  go_wp2_with fail
  refine (bytes23 a n c HN.out (lens S) a' n' c' HN'.out (lens S') w (HST.out.lens HL.out) (HST'.out.lens HL'.out)).mono ?_
  rintro e w' ⟨⟨x, rfl⟩, rfl⟩
  cases x
  · go_wp2
    go_ret
    exact ⟨rfl, Below.refl _ _⟩
  go_wp2_with fail
  refine (fit8 a n c HN.out (lens S) w' (HST.out.lens HL.out)).mono ?_
  rintro e w ⟨⟨x, rfl, hx⟩, rfl⟩
  cases x
  · go_wp2
    go_ret
    exact ⟨rfl, Below.refl _ _⟩
  obtain ⟨hn, hs⟩ := hx rfl
  have HS := hide hs; clear hs hx
  go_wp2_with fail
  refine (fit8 a' n' c' HN'.out (lens S') w (HST'.out.lens HL'.out)).mono ?_
  rintro e w' ⟨⟨x, rfl, hx⟩, rfl⟩
  cases x
  · go_wp2
    go_ret
    exact ⟨rfl, Below.refl _ _⟩
  obtain ⟨hn', hs'⟩ := hx rfl
  have HS' := hide hs'; clear hs' hx
  go_wp2_with fail
  refine (clone9 a n c S w' (by omega) (fun i hi => Nat.le_trans (lens_le S hi) (Nat.le_trans HS.out (by omega))) HST.out).mono ?_
  rintro e wa ⟨q, m, rfl, hq, hba⟩
  have HQA := hide hq; have HBA := hide hba
  have HST2 := hide (HST'.out.later hba)
  clear hq hba HST HL HN HST' HL' HN'
  go_wp2_with fail
  refine (clone9 a' n' c' S' wa (by omega) (fun i hi => Nat.le_trans (lens_le S' hi) (Nat.le_trans HS'.out (by omega))) HST2.out).mono ?_
  rintro e w1 ⟨q', m', rfl, hq', hb1⟩
  have HQ' := hide hq'
  have HQ := hide (HQA.out.later hb1)
  have HB1 : Hid (Below w'.heap.size w' w1) := HBA.out.trans (hb1.mono HBA.out.size)
  clear hq' hb1 HQA HBA HST2
  go_wp2_with fail
  refine (new10 0 0 w1).mono ?_
  rintro e w2 ⟨wb, p0, p1, p2, p3, spb, cap, tb, fb, sb, rb, rfl, hW, hp3, hb2⟩
  have HW := hide hW; have HP3 := hide hp3; have HB2 := hide hb2
  clear hW hp3 hb2
  simp only [ptr]
  go_wp2_with fail
  refine (all11 w2.heap.size wb p3 _ 0 0 0 tb fb sb rb q n m S w2 w1 hn HS.out (by omega) (by omega) (wrote0 S HW.out.writer HP3.out) HQ.out HB2.out HB2.out.size HW.out.bounds.1 HW.out.bounds.2.2.2.2).mono ?_
  rintro e w3 ⟨rfl, hw3⟩
  have hb3 : Below w1.heap.size w1 w3 := HB2.out.trans (hw3.frame.below HB2.out.size HW.out.bounds.1 HW.out.bounds.2.2.2.2)
  obtain ⟨hW3, hH3⟩ := wstate_filled HW.out HP3.out hw3
  rw [Int.zero_add] at hW3
  have HW3 := hide hW3; have HH3 := hide hH3; have HB3 := hide hb3
  obtain ⟨c0, -, -, -, -, -, -, -⟩ := wcell hW3
  clear hW3 hH3 hb3 hw3 HW HP3 HB2
  go_wp2_with fail
  refine (cur12 wb _ w3 c0).mono ?_
  rintro e w3' ⟨rfl, rfl⟩
  clear c0
  go_wp2_with fail
  refine hand13 wb w3' _ ((hand31 w1.heap.size wb p3 spb cap p2 [p0, p1] 0 n 0 tb fb sb rb #[] 0 0 0 w3' (by omega) (by simp) (by simp) HW3.out).mono ?_)
  rintro e w4 ⟨rfl, hW4, hfr4, hp2⟩
  refine ⟨rfl, ?_⟩
  have HB4 : Hid (Below w1.heap.size w1 w4) := HB3.out.trans (hfr4.below HB3.out.size (by have := HW3.out.bounds; simp; omega))
  have HH4 := hide (HH3.out.fr hfr4 (far_wt HW3.out))
  have HND := hide HW3.out.nodup
  have HW4 := hide hW4; have HP2 := hide hp2
  clear hW4 hfr4 HH3 HW3 HB3 hp2
  -- the second page
  go_wp2_with fail
  refine (all11 w4.heap.size wb p2 _ (0 + 1) n n tb fb sb rb q' n' m' S' w4 w1 hn' HS'.out (by omega) (by omega) (wrote0 S' HW4.out.writer HP2.out) HQ'.out HB4.out HB4.out.size HW4.out.bounds.1 HW4.out.bounds.2.2.2.2).mono ?_
  rintro e w5 ⟨rfl, hw5⟩
  have hb5 : Below w1.heap.size w1 w5 := HB4.out.trans (hw5.frame.below HB4.out.size HW4.out.bounds.1 HW4.out.bounds.2.2.2.2)
  obtain ⟨hW5, hH5⟩ := wstate_filled HW4.out HP2.out hw5
  have HH5 : Hid (Held w5 p3 n S) := HH4.out.fr2 hw5.frame.fr (by
      have := HND.out; simp at this
      have hp3 : p3 ≠ wb := by
        obtain ⟨_, _, _, _, _, _, h, _⟩ := HH4.out.page
        exact ne_of_types h HW4.out.writer (by decide)
      simp; omega) (fun k cs t hk h => by
    simp at hk
    rcases hk with rfl | rfl
    · have := HW4.out.writer; rw [h] at this; simp at this; rw [this.2]; decide
    · have := HP2.out; rw [h] at this; simp at this; rw [this.2]; decide)
  have HW5 := hide hW5; have HG5 := hide hH5; have HB5 := hide hb5
  obtain ⟨c0, -, -, -, -, -, -, -⟩ := wcell hW5
  clear hW5 hH5 hb5 hw5 HW4 HP2 HB4 HH4
  go_wp2_with fail
  refine (cur12 wb _ w5 c0).mono ?_
  rintro e w5' ⟨rfl, rfl⟩
  clear c0
  go_wp2_with fail
  refine hand13 wb w5' _ ((hand31 w1.heap.size wb p2 spb cap p1 [p0] (0 + 1) (n + n') n tb fb sb rb (#[].push (ptr p3)) (0 + 1) 0 0 w5' (by omega) (by simp) (by simp) HW5.out).mono ?_)
  rintro e w6 ⟨rfl, hW6, hfr6, hp1⟩
  refine ⟨rfl, ?_⟩
  have HB6 : Hid (Below w1.heap.size w1 w6) := HB5.out.trans (hfr6.below HB5.out.size (by have := HW5.out.bounds; simp; omega))
  have HH6 := hide (HH5.out.fr hfr6 (far_wt HW5.out))
  have HG6 := hide (HG5.out.fr hfr6 (far_wt HW5.out))
  obtain ⟨-, -, -, -, -, c6, -, -⟩ := wcell hW6
  have HW6 := hide hW6; have HP1 := hide hp1
  clear hW6 hfr6 HH5 HG5 HW5 HB5 hp1
  go_wp2_with fail
  refine (queued14 wb tb 4 _ false _ _ w6 c6 HW6.out.chan).mono ?_
  rintro e w6' ⟨rfl, rfl⟩
  go_wp2_with fail
  refine (recv15 wb tb 4 _ _ _ (.pointer (some ⟨p3, 0, none⟩)) w6' c6 HW6.out.chan rfl).mono ?_
  rintro e w7 ⟨rfl, hw7⟩
  obtain ⟨hW7, hfr7⟩ := wstate_recv HW6.out #[ptr p2] (0 + 1 + 1) (0 + 1)
  have hw7' : w7 = w6'.setChan tb 4 #[ptr p2] false (0 + 1 + 1) (0 + 1) false := hw7
  rw [← hw7'] at hW7 hfr7
  have HB7 : Hid (Below w1.heap.size w1 w7) := HB6.out.trans (hfr7.below HB6.out.size (by have := HW6.out.bounds; simp; omega))
  have HH7 := hide (HH6.out.fr hfr7 (far_t HW6.out))
  have HG7 := hide (HG6.out.fr hfr7 (far_t HW6.out))
  have HP7 : Hid (w7.heap[p1]? = some (.cells page0 99 (0, 0))) := (hfr7.block p1 (lt_of HP1.out) (by
    simp
    rintro rfl
    have := HW6.out.chan; rw [HP1.out] at this; simp at this)).trans HP1.out
  obtain ⟨-, -, -, -, -, d6, -, -⟩ := wcell hW7
  have HW7 := hide hW7
  clear hW7 hfr7 hw7 hw7' c6 HH6 HG6 HB6 HW6 HP1
  go_wp2_with fail
  refine (recv15 wb tb 4 _ _ _ (.pointer (some ⟨p2, 0, none⟩)) w7 d6 HW7.out.chan rfl).mono ?_
  rintro e w8 ⟨rfl, hw8⟩
  obtain ⟨hW8, hfr8⟩ := wstate_recv HW7.out #[] (0 + 1 + 1) (0 + 1 + 1)
  have hw8' : w8 = w7.setChan tb 4 #[] false (0 + 1 + 1) (0 + 1 + 1) false := hw8
  rw [← hw8'] at hW8 hfr8
  have HB8 : Hid (Below w1.heap.size w1 w8) := HB7.out.trans (hfr8.below HB7.out.size (by have := HW7.out.bounds; simp; omega))
  have HH8 := hide (HH7.out.fr hfr8 (far_t HW7.out))
  have HG8 := hide (HG7.out.fr hfr8 (far_t HW7.out))
  have HP8 : Hid (w8.heap[p1]? = some (.cells page0 99 (0, 0))) := (hfr8.block p1 (lt_of HP7.out) (by
    simp
    rintro rfl
    have := HW7.out.chan; rw [HP7.out] at this; simp at this)).trans HP7.out
  have HW8 := hide hW8
  clear hW8 hfr8 hw8 hw8' d6 HH7 HG7 HB7 HW7 HP7
  have n32 : p3 ≠ p2 := by have := HND.out; simp at this; omega
  have n12 : p1 ≠ p2 := by have := HND.out; simp at this; omega
  have n13 : p1 ≠ p3 := by have := HND.out; simp at this; omega
  obtain ⟨cs3, g3⟩ : ∃ cs, w8.heap[p3]? = some (.cells cs 99 (0, 0)) := by
    obtain ⟨_, _, _, _, _, _, h, _⟩ := HH8.out.page
    exact ⟨_, h⟩
  obtain ⟨cs2, g2⟩ : ∃ cs, w8.heap[p2]? = some (.cells cs 99 (0, 0)) := by
    obtain ⟨_, _, _, _, _, _, h, _⟩ := HG8.out.page
    exact ⟨_, h⟩
  have qn3 := ptr_same ⟨p3, 0, none⟩
  have qn2 := ptr_same ⟨p2, 0, none⟩
  have qe := ptr_other n32 g3 g2
  have G3 := hide g3; have G2 := hide g2
  clear g3 g2
  go_wp2_with fail
  refine (holds16 p3 n m q S w8 hn HS.out HH8.out (HQ.out.later HB8.out)).mono ?_
  rintro e w9 ⟨rfl, hb9⟩
  have HB9 : Hid (Below w1.heap.size w1 w9) := HB8.out.trans (hb9.mono HB8.out.size)
  have HG9 : Hid (Held w9 p2 n' S') := HG8.out.fr (X := []) (Fr.of_below hb9) (by simp)
  have H89 := hide hb9
  clear hb9 qn3 qn2 qe HH8 HG8
  go_wp2_with fail
  refine (holds16 p2 n' m' q' S' w9 hn' HS'.out HG9.out (HQ'.out.later HB9.out)).mono ?_
  rintro e wz ⟨rfl, hbz⟩
  have h8z : Below w8.heap.size w8 wz := H89.out.trans (hbz.mono H89.out.size)
  have cellz : ∀ {b o : Nat} {v : Value}, w8.cell? ⟨b, o, none⟩ = some v → wz.cell? ⟨b, o, none⟩ = some v := fun h => cell_kept h8z (World.block_lt_of_cell? _ _ h) h
  obtain ⟨c0, c1, c2, c3, c4, -, -, -⟩ := wcell HW8.out
  replace c0 := cellz c0
  replace c1 := cellz c1
  replace c2 := cellz c2
  replace c3 := cellz c3
  replace c4 := cellz c4
  have g1 : wz.heap[p1]? = some (.cells page0 99 (0, 0)) := (h8z.block _ (lt_of HP8.out)).trans HP8.out
  have g3 := (h8z.block _ (lt_of G3.out)).trans G3.out
  have g2 := (h8z.block _ (lt_of G2.out)).trans G2.out
  have qa := ptr_other n13 g1 g3
  have qb := ptr_other n12 g1 g2
  have l0 : wz.cell? ⟨p1, 0, none⟩ = some (.slice none 0 0) := (cell_of g1 0).trans rfl
  have l1 : wz.cell? ⟨p1, 1, none⟩ = some (.slice none 0 0) := (cell_of g1 1).trans rfl
  have HEND : Hid (Below w'.heap.size w' wz) := HB1.out.trans ((HB9.out.trans (hbz.mono HB9.out.size)).mono HB1.out.size)
  clear cellz hbz h8z HW8 HG9 HB8 HB9 g1 g2 g3 G2 G3 HP8 H89 HB1
  go_wp2_with fail
  refine (cur12 wb _ wz c0).mono ?_
  rintro e wy ⟨rfl, rfl⟩
  go_wp2_with fail
  refine (len17 p1 none 0 0 wy l0).mono ?_
  rintro e wz ⟨rfl, rfl⟩
  go_wp2_with fail
  refine (bytes18 p1 _ wz l1).mono ?_
  rintro e wy ⟨rfl, rfl⟩
  clear qa qb l0 l1 c0
  go_wp2_with fail
  refine (flight19 wb _ wy c2).mono ?_
  rintro e wz ⟨rfl, rfl⟩
  go_wp2_with fail
  refine (given20 wb _ wz c3).mono ?_
  rintro e wy ⟨rfl, rfl⟩
  go_wp2_with fail
  refine (handed21 wb _ wy c4).mono ?_
  rintro e wz ⟨rfl, rfl⟩
  go_wp2_with fail
  refine (spare22 wb _ _ _ wz c1).mono ?_
  rintro e wy ⟨rfl, rfl⟩
  go_wp2
  go_ret
  exact ⟨rfl, HEND.out⟩
end Go.Proofs.Qxb6605831a

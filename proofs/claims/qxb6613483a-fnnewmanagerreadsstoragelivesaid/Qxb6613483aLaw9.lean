import Derived.Test.Qxb6613483aStart
namespace Go.Proofs.Qxb6613483a
open Go.RowKit Go.MuLone Go.Maps
set_option linter.unusedSimpArgs false

set_option maxRecDepth 100000 in
set_option maxHeartbeats 3200000 in
/-- FnNewManagerReadsStorageLive. -/
theorem law9 (a : Option Addr) (n c : Nat) (a1 : Option Addr) (n1 c1 : Nat) (a2 : Option Addr) (n2 c2 : Nat) (q d : ByteArray) (S N : Nat → ByteArray) (Z : Nat → Int) (w : World) (h0 : Strs w a n S) (h1 : Ints w a1 n1 Z) (h2 : Strs w a2 n2 N)
    (sS : ∀ i, i < n → (S i).size ≤ maxLen) (sN : ∀ i, i < n2 → (N i).size ≤ maxLen) (hq : q.size ≤ maxLen) (hd : d.size ≤ maxLen) (hc : n ≤ c) :
    Calls Try.prog 9 #[.slice a n c, .slice a1 n1 c1, .slice a2 n2 c2, .string q, .string d] w fun e w' => e = .returned (.bool true) ∧ Below w.heap.size w w' := by
  have H0 := hide h0; have H1 := hide h1; have H2 := hide h2; have SS := hide sS; have SN := hide sN; have HQ := hide hq; have HD := hide hd; have HC := hide hc
  clear h0 h1 h2 sS sN hq hd hc
  go_enter Try.func9, Try.ntmps9
  go_wp2_with fail
  refine (bytes31 a n c a1 n1 c1 a2 n2 c2 q d S N w H0.out H2.out).mono ?_
  rintro e w' ⟨hs, hw⟩
  obtain rfl : w = w' := hw.symm
  clear hw
  rcases hs with rfl | ⟨rfl, _⟩
  · go_wp2_with fail
    go_ret
    exact ⟨rfl, Below.refl _ _⟩
  · go_wp2_with fail
    all_goals first | (go_ret; exact ⟨rfl, Below.refl _ _⟩) | skip
    have hn : n ≤ 4096 := by omega
    have hn1 : n1 ≤ 4096 := by omega
    have hn2 : n2 ≤ 4096 := by omega
    have B0 := hide hn; have B1 := hide hn1; have B2 := hide hn2
    refine (add11 _ a n c S w hn H0.out).mono ?_
    rintro e w' ⟨⟨z, rfl⟩, hw⟩
    obtain rfl : w = w' := hw.symm
    clear hw
    go_wp2_with fail
    all_goals first | (go_ret; exact ⟨rfl, Below.refl _ _⟩) | skip
    refine (add11 _ a2 n2 c2 N w B2.out H2.out).mono ?_
    rintro e w' ⟨⟨z', rfl⟩, hw⟩
    obtain rfl : w = w' := hw.symm
    clear hw
    go_wp2_with fail
    all_goals first | (go_ret; exact ⟨rfl, Below.refl _ _⟩) | skip
    refine (min12 n n1 n2 w).mono ?_
    rintro e w' ⟨⟨m, rfl, hm0, hm1, hm2⟩, hw⟩
    obtain rfl : w = w' := hw.symm
    clear hw
    have hsl := slice22 a n c m (by have := HC.out; omega) w
    have hL : Lens m n1 n2 0 N := ⟨by have := B0.out; omega, hm1, hm2, by omega, SN.out⟩
    have hL1 : Lens m n1 n2 1 N := ⟨by have := B0.out; omega, hm1, hm2, by omega, SN.out⟩
    have HL := hide hL; have HL1 := hide hL1; have HM := hide hm0
    have hm' : (m : Int) ≤ 4096 := by have := B0.out; omega
    clear hL hL1 hm0 hm1 hm2 hn hn1 hn2
    go_wp2_with fail
    refine (new13 w).mono ?_
    rintro e wA ⟨rfl, hwA⟩
    have sA : wA.heap[w.heap.size + 1]? = some (.cells #[.map (some w.heap.size)] 50 (0, 0)) := by
      rw [hwA]
      simpa using new_at (w.alloc (.map #[] 0)) (.cells #[.map (some w.heap.size)] 50)
    have rA : Reads wA w.heap.size 0 (fun _ => none) := by
      rw [hwA]
      exact (Reads.made w).later (below_alloc _ _)
    have bA : Below w.heap.size w wA := by
      rw [hwA]
      exact Below.from (below_alloc _ _) (below_alloc _ _)
    have cA : wA.cell? ⟨w.heap.size + 1, 0, none⟩ = some (.map (some w.heap.size)) := (cell_of sA 0).trans rfl
    have SA := hide sA; have RA := hide rA; have BA := hide bA
    clear hwA hsl sA rA bA
    go_wp2_with fail
    refine (counts14 _ _ wA cA).mono ?_
    rintro e w' ⟨rfl, hw⟩
    obtain rfl : wA = w' := hw.symm
    clear hw
    have hnm := eqlmap29 w.heap.size
    go_wp2_with fail
    clear hnm
    refine (fill15 w.heap.size m n1 n2 a a1 a2 c c1 c2 S N Z wA RA.out ((H0.out.less HM.out).later BA.out) (H1.out.later BA.out) (H2.out.later BA.out) HL.out.m0 HL.out.m1 HL.out.m2 (fun i hi => SS.out i (by have := HM.out; omega)) SN.out).mono ?_
    rintro e wB ⟨rfl, pb, hF⟩
    have HF := hide hF
    clear hF cA
    go_wp2_with fail
    refine (new26 (w.heap.size + 1) wB).mono ?_
    rintro e wC ⟨rfl, hwC⟩
    obtain ⟨A0, C0, D0⟩ := start SA.out RA.out BA.out (Nat.le_refl _) ((H0.out.less HM.out).later BA.out) (H1.out.later BA.out) (H2.out.later BA.out) HF.out
    simp only [mcells] at A0 C0 D0
    rw [← hwC] at A0 C0 D0
    have AC := hide A0; have CC := hide C0; have DC := hide D0
    clear hwC A0 C0 D0
    go_wp2_with fail
    refine (managed27 c m c1 c2 0 q HQ.out wC AC.out HL.out).mono ?_
    rintro e w1 ⟨rfl, hb⟩
    have X1 := hide hb
    clear hb
    go_wp2_with fail
    refine (managed27 c m c1 c2 0 d HD.out w1 (AC.out.later X1.out) HL.out).mono ?_
    rintro e w2 ⟨rfl, hb⟩
    have X2 := hide (Below.from X1.out hb)
    clear hb X1
    go_wp2_with fail
    have A3 := AC.out.later (Below.from X2.out (below_alloc w2 (.cells #[.string d] 9)))
    have C3 : ∀ i, i < m → Cnt2 (w2.alloc (.cells #[.string d] 9)) (pb i) w.heap.size (Z i) (N i) := fun i hi => (CC.out i hi).later (Below.from X2.out (below_alloc w2 (.cells #[.string d] 9)))
    have D3 : Below w.heap.size w (w2.alloc (.cells #[.string d] 9)) := DC.out.trans ((Below.from X2.out (below_alloc w2 (.cells #[.string d] 9))).mono DC.out.size)
    refine (delete20 (w.heap.size + 1) w.heap.size m _ d HD.out (w2.alloc (.cells #[.string d] 9)) ((cell_of A3.mgr.store 0).trans rfl) A3.mgr.reads).mono ?_
    rintro e w4 ⟨rfl, hr4, hg4⟩
    have A4 := A3.dropped C3 ((cell_of (new_at w2 (.cells #[.string d] 9)) 0).trans rfl) hr4 hg4
    have D4 : Below w.heap.size w w4 := D3.grown hg4 (Nat.le_trans D3.size (Nat.le_refl _)) (fun j hj => by cases hj; exact Nat.le_refl _)
    have Y4 := hide A4; have E4 := hide D4
    clear A3 C3 D3 A4 D4 hr4 hg4 AC CC DC X2 HF SA RA BA
    go_wp2_with fail
    refine (managed27 c m c1 c2 1 q HQ.out w4 Y4.out HL1.out).mono ?_
    rintro e w5 ⟨rfl, hb⟩
    have Y5 := hide (Y4.out.later hb)
    have E5 := hide (E4.out.trans (hb.mono E4.out.size))
    clear hb Y4 E4
    go_wp2_with fail
    refine (get29_none wB.heap.size (w.heap.size + 1) w.heap.size m _ d HD.out w5 Y5.out.mgr (by simp [keptM, lastIdx])).mono ?_
    rintro e w6 ⟨rfl, hb⟩
    have Y6 := hide (Y5.out.later hb)
    have E6 := hide (E5.out.trans (hb.mono E5.out.size))
    clear hb Y5 E5
    go_wp2_with fail
    go_loopw [18] (fun i wr => ∃ (k : Nat), k ≤ m ∧ i = .int .i64 k ∧ All wr wB.heap.size (w.heap.size + 1) w.heap.size m wA.heap.size m a S a1 n1 Z a2 n2 N pb (some ⟨w2.heap.size, 0, none⟩) 1 (fun _ => d) ∧ Below w.heap.size w wr) (fun i _ => m - (intOf i).toNat)
    case atStart => exact ⟨0, Nat.zero_le _, rfl, Y6.out, E6.out⟩
    case round =>
      obtain ⟨k, hk, rfl, hA, hB⟩ := hrel
      have YR := hide hA; have ER := hide hB
      clear hA hB
      by_cases hlt : k < m
      · obtain ⟨b, off, e0, d1⟩ := YR.out.keys k hlt
        subst e0
        have i0 : (0 : Int) ≤ (k : Int) := by omega
        have i1 : (k : Int) < (m : Int) := by omega
        go_wp2_with fail
        refine (managed27 c m c1 c2 1 (S k) (SS.out k (by have := HM.out; omega)) wr YR.out HL1.out).mono ?_
        rintro e w7 ⟨rfl, hb⟩
        have Y7 := hide (YR.out.later hb)
        have E7 := hide (ER.out.trans (hb.mono ER.out.size))
        clear hb d1
        go_wp2
        go_roundw
        case rel => exact ⟨k + 1, by omega, by go_num, Y7.out, E7.out⟩
        case measure => simp [intOf]; omega
      · obtain rfl : m = k := by omega
        go_wp2
        go_ret
        exact ⟨rfl, ER.out⟩
end Go.Proofs.Qxb6613483a

import Derived.Test.Qxb6613483aStart
import Derived.Test.Qxb6613483aStored
import Derived.Test.Qxb6613483aCopy
import Derived.RegionTactic
namespace Go.Proofs.Qxb6613483a
open Go.RowKit Go.MuLone Go.Maps
set_option linter.unusedSimpArgs false

theorem one_more {s : ByteArray} (h : s.size ≤ 1048576) : (s ++ { data := #[1] }).size ≤ maxLen := by
  rw [ByteArray.size_append]
  have e : ({ data := #[1] } : ByteArray).size = 1 := rfl
  unfold maxLen
  omega

set_option maxRecDepth 100000 in
set_option maxHeartbeats 3200000 in
/-- FnNewManagerHandsOutDetachedCopies. -/
theorem law8 (a : Option Addr) (n c : Nat) (a1 : Option Addr) (n1 c1 : Nat) (a2 : Option Addr) (n2 c2 : Nat) (q : ByteArray) (S N : Nat → ByteArray) (Z : Nat → Int) (w : World) (h0 : Strs w a n S) (h1 : Ints w a1 n1 Z) (h2 : Strs w a2 n2 N)
    (sS : ∀ i, i < n → (S i).size ≤ maxLen) (sN : ∀ i, i < n2 → (N i).size ≤ maxLen) (hq : q.size ≤ maxLen) (hc : n ≤ c) :
    Calls Try.prog 8 #[.slice a n c, .slice a1 n1 c1, .slice a2 n2 c2, .string q] w fun e w' => e = .returned (.bool true) ∧ Below w.heap.size w w' := by
  have H0 := hide h0; have H1 := hide h1; have H2 := hide h2; have SS := hide sS; have SN := hide sN; have HQ := hide hq; have HC := hide hc
  clear h0 h1 h2 sS sN hq hc
  go_enter Try.func8, Try.ntmps8
  go_wp2_with fail
  refine (bytes25 a n c a1 n1 c1 a2 n2 c2 q S N w H0.out H2.out).mono ?_
  rintro e w' ⟨hs, hw⟩
  obtain rfl : w = w' := hw.symm
  clear hw
  rcases hs with rfl | ⟨rfl, hshort⟩
  · go_wp2_with fail
    go_ret
    exact ⟨rfl, Below.refl _ _⟩
  · have SH := hide hshort
    clear hshort
    go_wp2_with fail
    all_goals first | (go_ret; exact ⟨rfl, Below.refl _ _⟩) | skip
    have hn : n ≤ 4096 := by omega
    have hn1 : n1 ≤ 4096 := by omega
    have hn2 : n2 ≤ 4096 := by omega
    have B0 := hide hn; have B1 := hide hn1; have B2 := hide hn2
    refine (add11 _ a n c S w hn H0.out).mono ?_
    rintro e w' ⟨⟨z, rfl⟩, hw⟩
    obtain rfl : w = w' := hw.symm
    clear hw
    go_wp2_with fail
    all_goals first | (go_ret; exact ⟨rfl, Below.refl _ _⟩) | skip
    refine (add11 _ a2 n2 c2 N w B2.out H2.out).mono ?_
    rintro e w' ⟨⟨z', rfl⟩, hw⟩
    obtain rfl : w = w' := hw.symm
    clear hw
    go_wp2_with fail
    all_goals first | (go_ret; exact ⟨rfl, Below.refl _ _⟩) | skip
    refine (min12 n n1 n2 w).mono ?_
    rintro e w' ⟨⟨m, rfl, hm0, hm1, hm2⟩, hw⟩
    obtain rfl : w = w' := hw.symm
    clear hw
    have hsl := slice22 a n c m (by have := HC.out; omega) w
    have hL : Lens m n1 n2 0 N := ⟨by have := B0.out; omega, hm1, hm2, by omega, SN.out⟩
    have HL := hide hL; have HM := hide hm0
    have hm' : (m : Int) ≤ 4096 := by have := B0.out; omega
    clear hL hm0 hm1 hm2 hn hn1 hn2
    go_wp2_with fail
    refine (new13 w).mono ?_
    rintro e wA ⟨rfl, hwA⟩
    have sA : wA.heap[w.heap.size + 1]? = some (.cells #[.map (some w.heap.size)] 50 (0, 0)) := by
      rw [hwA]
      simpa using new_at (w.alloc (.map #[] 0)) (.cells #[.map (some w.heap.size)] 50)
    have rA : Reads wA w.heap.size 0 (fun _ => none) := by
      rw [hwA]
      exact (Reads.made w).later (below_alloc _ _)
    have bA : Below w.heap.size w wA := by
      rw [hwA]
      exact Below.from (below_alloc _ _) (below_alloc _ _)
    have cA : wA.cell? ⟨w.heap.size + 1, 0, none⟩ = some (.map (some w.heap.size)) := (cell_of sA 0).trans rfl
    have SA := hide sA; have RA := hide rA; have BA := hide bA
    clear hwA hsl sA rA bA
    go_wp2_with fail
    refine (counts14 _ _ wA cA).mono ?_
    rintro e w' ⟨rfl, hw⟩
    obtain rfl : wA = w' := hw.symm
    clear hw
    have hnm := eqlmap29 w.heap.size
    go_wp2_with fail
    clear hnm
    refine (fill15 w.heap.size m n1 n2 a a1 a2 c c1 c2 S N Z wA RA.out ((H0.out.less HM.out).later BA.out) (H1.out.later BA.out) (H2.out.later BA.out) HL.out.m0 HL.out.m1 HL.out.m2 (fun i hi => SS.out i (by have := HM.out; omega)) SN.out).mono ?_
    rintro e wB ⟨rfl, pb, hF⟩
    have HF := hide hF
    clear hF cA
    go_wp2_with fail
    refine (new26 (w.heap.size + 1) wB).mono ?_
    rintro e wC ⟨rfl, hwC⟩
    obtain ⟨A0, C0, D0⟩ := start SA.out RA.out BA.out (Nat.le_refl _) ((H0.out.less HM.out).later BA.out) (H1.out.later BA.out) (H2.out.later BA.out) HF.out
    simp only [mcells] at A0 C0 D0
    rw [← hwC] at A0 C0 D0
    have AC := hide A0; have CC := hide C0; have DC := hide D0
    clear hwC A0 C0 D0
    go_wp2_with fail
    refine (managed27 c m c1 c2 0 q HQ.out wC AC.out HL.out).mono ?_
    rintro e w1 ⟨rfl, hb⟩
    have YC := hide (AC.out.later hb)
    have EC := hide (DC.out.trans (hb.mono DC.out.size))
    clear hb AC CC DC HF SA RA BA
    go_wp2_with fail
    go_loopw [15] (fun i wr => ∃ (k : Nat), k ≤ m ∧ i = .int .i64 k ∧ All wr wB.heap.size (w.heap.size + 1) w.heap.size m wA.heap.size m a S a1 n1 Z a2 n2 N pb none 0 (fun _ => { data := #[] }) ∧ Below w.heap.size w wr) (fun i _ => m - (intOf i).toNat)
    case atStart => exact ⟨0, Nat.zero_le _, rfl, YC.out, EC.out⟩
    case round =>
      obtain ⟨k, hk, rfl, hA, hB⟩ := hrel
      have YR := hide hA; have ER := hide hB
      clear hA hB YC EC
      by_cases hlt : k < m
      · obtain ⟨b, off, e0, d1⟩ := YR.out.keys k hlt
        subst e0
        have i0 : (0 : Int) ≤ (k : Int) := by omega
        have i1 : (k : Int) < (m : Int) := by omega
        go_wp2_with fail
        refine (managed27 c m c1 c2 0 (S k) (SS.out k (by have := HM.out; omega)) wr YR.out HL.out).mono ?_
        rintro e w7 ⟨rfl, hb⟩
        have Y7 := hide (YR.out.later hb)
        have E7 := hide (ER.out.trans (hb.mono ER.out.size))
        clear hb d1
        go_wp2
        go_roundw
        case rel => exact ⟨k + 1, by omega, by go_num, Y7.out, E7.out⟩
        case measure => simp [intOf]; omega
      · obtain rfl : m = k := by omega
        go_wp2_with fail
        have h28 := last28 a m c S q wr HL.out.m0 YR.out.keys
        cases hl : lastIdx S q.data.toList m with
        | none =>
          rw [hl] at h28
          refine h28.mono ?_
          rintro e w' ⟨rfl, hw⟩
          obtain rfl : wr = w' := hw.symm
          clear hw h28
          simp only [lastV]
          go_wp2
          go_ret
          exact ⟨rfl, ER.out⟩
        | some i =>
          have hi := lastIdx_lt _ _ _ _ hl
          have i0 : (0 : Int) ≤ (i : Int) := by omega
          rw [hl] at h28
          refine h28.mono ?_
          rintro e w' ⟨rfl, hw⟩
          obtain rfl : wr = w' := hw.symm
          clear hw h28
          simp only [lastV]
          have HI := hide hi
          have hM : keptM S m pb (fun _ => { data := #[] }) 0 q.data.toList = some (pb i) := by simp [keptM, lastIdx, hl]
          clear hl hi
          go_wp2_with fail
          refine (get29_new wB.heap.size (w.heap.size + 1) w.heap.size m _ q HQ.out (pb i) (Z i) (N i) wr YR.out.mgr hM (YR.out.cnt i HI.out)).mono ?_
          rintro e w1 ⟨⟨b, rfl, hbb, hcb⟩, hb1⟩
          obtain ⟨nb, k1, k2, k3⟩ := hcb.out
          have c0 : w1.cell? ⟨b, 0, none⟩ = some (.int .i64 (Z i)) := (cell_of k1 0).trans rfl
          have c1' : w1.cell? ⟨b, 1, none⟩ = some (.map (some nb)) := (cell_of k1 1).trans rfl
          have f0 := free_of k1 0
          have hlen := fun ty => k2.len ty
          have K1 := hide k1; have K2 := hide k2; have K3 := hide k3; have HBB := hide hbb; have HB1 := hide hb1
          clear k1 k2 k3 hcb hbb hb1 hM
          go_wp2_with fail
          have hnb : nb ≠ b := by
            obtain ⟨es, c, hb⟩ := K2.out.block
            rintro rfl
            rw [K1.out] at hb
            simp at hb
          generalize hw2 : w1.setCell ⟨b, 0, none⟩ (.int .i64 (wrap64 (Z i + 1))) = w2
          have b2 : w2.heap[b]? = some (.cells #[.int .i64 (wrap64 (Z i + 1)), .map (some nb)] 47 (0, 0)) := by
            rw [← hw2]
            simpa using set_same K1.out 0 (.int .i64 (wrap64 (Z i + 1)))
          have n2' : Node w2 nb (N i).data.toList := by
            rw [← hw2]
            exact K2.out.grown (set_grown _ _ _ _) (by simpa using hnb)
          have l2 : Below wr.heap.size wr w2 := by
            rw [← hw2]
            exact HB1.out.grown (set_grown _ _ _ _) HB1.out.size (fun j hj => by cases hj; exact HBB.out)
          have g1 : w2.cell? ⟨b, 1, none⟩ = some (.map (some nb)) := (cell_of b2 1).trans rfl
          obtain ⟨bn, on, en, dn⟩ := (YR.out.later l2).nodes i (by have := HI.out; have := HL.out.m2; omega)
          have hsz := SH.out i (by have := HI.out; have := HL.out.m2; omega)
          have hsz' : ((N i).size : Int) ≤ 1048576 := by omega
          have j2 : (i : Int) < (n2 : Int) := by have := HI.out; have := HL.out.m2; omega
          obtain ⟨w3, hu, hg3⟩ : ∃ w3, (Instr.mapUpdate 45 (.map (some nb)) (.string (N i ++ { data := #[1] })) (.bool true)).run Try.prog w2.drew = .ok () w3 ∧ w2.drew.grownBy w3 (some nb) := by
            have h0 : w2.drew.ownsMap (H := Unit) Try.prog 9 (plainElem Try.prog 4) nb 1 (nodeD (N i).data.toList) := World.ownsMap.drew n2'
            obtain ⟨w3, hr, _, hg⟩ := h0.update key9 Try.underlying45 (by unfold maxLen; decide) (key_of (s := N i ++ { data := #[1] }) (one_more hsz)) (plainElem_bool Try.underlying4 true)
            exact ⟨w3, hr, hg⟩
          have l3 : Below wr.heap.size wr w3 := by
            have : Below wr.heap.size wr w2.drew := ⟨l2.os, l2.tape, l2.output, l2.size, l2.block⟩
            exact this.grown hg3 this.size (fun j hj => by cases hj; exact K3.out)
          have L3 := hide l3
          subst en
          clear hw2 b2 n2' l2 hg3 l3 c0 c1' f0 hlen K1 K2 K3 HBB HB1 hsz hnb
          go_region
          clear hu g1 dn hsz'
          have Y3 := hide (YR.out.later L3.out)
          have E3 := hide (ER.out.trans (L3.out.mono ER.out.size))
          have j0 : (i : Int) < (m : Int) := by have := HI.out; omega
          have j1 : (i : Int) < (n1 : Int) := by have := HI.out; have := HL.out.m1; omega
          have x0 := Y3.out.ptr i HI.out
          obtain ⟨b1, o1, e1, x1⟩ := Y3.out.ints i (by have := HI.out; have := HL.out.m1; omega)
          obtain ⟨b2, o2, e2, x2⟩ := Y3.out.nodes i (by have := HI.out; have := HL.out.m2; omega)
          simp only [Option.some.injEq, Addr.mk.injEq, and_true] at e2
          obtain ⟨rfl, rfl⟩ := e2
          subst e1
          have hs := SN.out i (by have := HI.out; have := HL.out.m2; omega)
          have hci := Y3.out.cnt i HI.out
          have HS := hide hs; have HCI := hide hci
          clear hs hci
          go_wp2_with fail
          go_quiet (first | (go_at_call_of 30 (pb i); refine Calls.quiet_of_same (intact30 (pb i) (Z i) (N i) HS.out _ (HCI.out.drewN _))))
          have Y4 := hide (Y3.out.later (below_drewN w3 nq))
          have E4 := hide (E3.out.trans ((below_drewN w3 nq).mono E3.out.size))
          clear x0 x1 x2
          generalize w3.drewN nq = w4 at *
          go_wp2_with fail
          refine (stored16 c m c1 c2 0 q HQ.out w4 Y4.out HL.out).mono ?_
          rintro e w5 ⟨rfl, hb⟩
          have Y5 := hide (Y4.out.later hb)
          have E5 := hide (E4.out.trans (hb.mono E4.out.size))
          clear hb
          go_wp2_with fail
          refine (managed27 c m c1 c2 0 q HQ.out w5 Y5.out HL.out).mono ?_
          rintro e w6 ⟨rfl, hb⟩
          have E6 := hide (E5.out.trans (hb.mono E5.out.size))
          clear hb
          go_wp2
          go_ret
          exact ⟨rfl, E6.out⟩
end Go.Proofs.Qxb6613483a

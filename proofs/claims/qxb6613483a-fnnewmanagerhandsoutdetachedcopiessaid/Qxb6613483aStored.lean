import Derived.Test.Qxb6613483aManaged
namespace Go.Proofs.Qxb6613483a
open Go.RowKit Go.MuLone Go.Maps
set_option linter.unusedSimpArgs false

set_option maxRecDepth 100000 in
set_option maxHeartbeats 1600000 in
/-- zzStoredIs. -/
theorem stored16 {gb sb mb mx rb m : Nat} {a : Option Addr} {S : Nat → ByteArray} {a1 : Option Addr} {n1 : Nat} {Z : Nat → Int} {a2 : Option Addr} {n2 : Nat} {N : Nat → ByteArray} {pb : Nat → Nat} {ad : Option Addr} {nd : Nat} {T : Nat → ByteArray}
    (c rc c1 c2 cd : Nat) (k : ByteArray) (hk : k.size ≤ maxLen) (w : World) (h : All w gb sb mb mx rb m a S a1 n1 Z a2 n2 N pb ad nd T) (hL : Lens m n1 n2 nd N) :
    Calls Try.prog 16 #[.pointer (some ⟨sb, 0, none⟩), .slice a m c, .slice (some ⟨rb, 0, none⟩) m rc, .slice a1 n1 c1, .slice a2 n2 c2, .slice ad nd cd, .string k] w fun e w' => e = .returned (.bool true) ∧ Below w.heap.size w w' := by
  have H := hide h; have HL := hide hL; have HK := hide hk
  clear h hL hk
  have h24 := get24 sb mb mx _ k HK.out w ((cell_of H.out.mgr.store 0).trans rfl) H.out.mgr.reads
  have h28 := last28 a m c S k w HL.out.m0 H.out.keys
  have h32 := in32 ad nd cd T k w HL.out.d H.out.dels
  cases hl : lastIdx S k.data.toList m with
  | none =>
    have hM : keptM S m pb T nd k.data.toList = none := by simp [keptM, hl]
    rw [hM] at h24
    rw [hl] at h28
    clear h32
    go_enter Try.func16, Try.ntmps16
    go_wp2_with fail
    refine h24.mono ?_
    rintro e w1 ⟨rfl, hw1⟩
    obtain rfl : w = w1 := hw1.symm
    clear hw1 h24
    simp only [ptrV]
    go_wp2_with fail
    refine h28.mono ?_
    rintro e w2 ⟨rfl, hw2⟩
    obtain rfl : w = w2 := hw2.symm
    clear hw2 h28
    simp only [lastV]
    go_wp2
    go_ret
    exact ⟨rfl, Below.refl _ _⟩
  | some i =>
    have hi := lastIdx_lt _ _ _ _ hl
    have HI := hide hi
    have i0 : (0 : Int) ≤ (i : Int) := by omega
    rw [hl] at h28
    cases hd : (lastIdx T k.data.toList nd).isSome with
    | true =>
      have hM : keptM S m pb T nd k.data.toList = none := by simp [keptM, hd]
      rw [hM] at h24
      rw [hd] at h32
      go_enter Try.func16, Try.ntmps16
      go_wp2_with fail
      refine h24.mono ?_
      rintro e w1 ⟨rfl, hw1⟩
      obtain rfl : w = w1 := hw1.symm
      clear hw1 h24
      simp only [ptrV]
      go_wp2_with fail
      refine h28.mono ?_
      rintro e w2 ⟨rfl, hw2⟩
      obtain rfl : w = w2 := hw2.symm
      clear hw2 h28
      simp only [lastV]
      go_wp2_with fail
      refine h32.mono ?_
      rintro e w2 ⟨rfl, hw2⟩
      obtain rfl : w = w2 := hw2.symm
      clear hw2 h32
      go_wp2
      go_ret
      exact ⟨rfl, Below.refl _ _⟩
    | false =>
      have hM : keptM S m pb T nd k.data.toList = some (pb i) := by simp [keptM, hd, hl]
      rw [hM] at h24
      rw [hd] at h32
      go_enter Try.func16, Try.ntmps16
      go_wp2_with fail
      refine h24.mono ?_
      rintro e w1 ⟨rfl, hw1⟩
      obtain rfl : w = w1 := hw1.symm
      clear hw1 h24
      simp only [ptrV]
      go_wp2_with fail
      refine h28.mono ?_
      rintro e w2 ⟨rfl, hw2⟩
      obtain rfl : w = w2 := hw2.symm
      clear hw2 h28
      simp only [lastV]
      go_wp2_with fail
      refine h32.mono ?_
      rintro e w2 ⟨rfl, hw2⟩
      obtain rfl : w = w2 := hw2.symm
      clear hw2 h32
      have j0 : (i : Int) < (m : Int) := by have := HI.out; omega
      have j1 : (i : Int) < (n1 : Int) := by have := HI.out; have := HL.out.m1; omega
      have j2 : (i : Int) < (n2 : Int) := by have := HI.out; have := HL.out.m2; omega
      have d0 := H.out.ptr i HI.out
      obtain ⟨b1, o1, e1, d1⟩ := H.out.ints i (by omega)
      obtain ⟨b2, o2, e2, d2⟩ := H.out.nodes i (by omega)
      have hs := HL.out.size i (by omega)
      have hci := H.out.cnt i HI.out
      have HS := hide hs; have HCI := hide hci
      have hq := eql39 (pb i)
      clear hs hci
      subst e1 e2
      go_wp2_with fail
      go_quiet (first | (go_at_call_of 30 (pb i); refine Calls.quiet_of_same (intact30 (pb i) (Z i) (N i) HS.out _ (HCI.out.drewN _))))
      go_wp2
      go_ret
      exact ⟨rfl, below_drewN _ _⟩
end Go.Proofs.Qxb6613483a

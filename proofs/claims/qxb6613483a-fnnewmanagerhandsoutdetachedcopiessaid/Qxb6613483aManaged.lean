import Derived.Test.Qxb6613483aMgr
import Derived.Deep.QuietTactic
import Derived.BigQuiet
import Derived.Deep.RegionWith
import Derived.LaidEql
namespace Go.Proofs.Qxb6613483a
open Go.RowKit Go.MuLone Go.Maps
set_option linter.unusedSimpArgs false

theorem neq39 {b c : Nat} (h : b ≠ c) {w : World} {cb cc : Array Value} {tb tc : TypeId} (hb : w.heap[b]? = some (.cells cb tb (0, 0))) (hc : w.heap[c]? = some (.cells cc tc (0, 0))) : (binOp .neq 39 (.pointer (some ⟨b, 0, none⟩)) (.pointer (some ⟨c, 0, none⟩))).run Try.prog w = .ok (.bool true) w := by
  have h1 : ∀ d : Nat, (Op.equalIn (d + 1) 39 (.pointer (some ⟨b, 0, none⟩)) (.pointer (some ⟨c, 0, none⟩))).run Try.prog w = .ok false w := fun d => by
    simp [Op.equalIn, run_underlying Try.underlying39, Try.sizeOf47]
    exact run_sameAddr_other w (a := ⟨b, 0, none⟩) (b := ⟨c, 0, none⟩) (by simp [h]) hb hc
  have h2 : (Op.equal 39 (.pointer (some ⟨b, 0, none⟩)) (.pointer (some ⟨c, 0, none⟩))).run Try.prog w = .ok false w := h1 9999
  simp only [binOp]
  simp [h2]
theorem eql39 (b : Nat) (w : World) : (binOp .eql 39 (.pointer (some ⟨b, 0, none⟩)) (.pointer (some ⟨b, 0, none⟩))).run Try.prog w = .ok (.bool true) w := by
  have h1 : ∀ d : Nat, (Op.equalIn (d + 1) 39 (.pointer (some ⟨b, 0, none⟩)) (.pointer (some ⟨b, 0, none⟩))).run Try.prog w = .ok true w := fun d => by
    simp [Op.equalIn, run_underlying Try.underlying39, Try.sizeOf47, run_sameAddr_same]
  have h2 : (Op.equal 39 (.pointer (some ⟨b, 0, none⟩)) (.pointer (some ⟨b, 0, none⟩))).run Try.prog w = .ok true w := h1 9999
  simp only [binOp]
  simp [h2]

theorem Cnt.drewN {w : World} {pb : Nat} {z : Int} {s : ByteArray} (h : Cnt w pb z s) (n : Nat) : Cnt (w.drewN n) pb z s := ⟨h.out⟩
theorem below_drewN (w : World) (n : Nat) : Below w.heap.size w (w.drewN n) := ⟨rfl, rfl, rfl, Nat.le_refl _, fun _ _ => rfl⟩

/-- The pointers that zzFill hands back. -/
def Ptrs (w : World) (rb m : Nat) (pb : Nat → Nat) : Prop := ∀ i, i < m → w.cell? ⟨rb, i, none⟩ = some (.pointer (some ⟨pb i, 0, none⟩))
theorem Ptrs.later {w w' : World} {rb m : Nat} {pb : Nat → Nat} (h : Ptrs w rb m pb) (hb : Below w.heap.size w w') : Ptrs w' rb m pb := fun i hi => cell_kept hb (World.block_lt_of_cell? _ _ (h i hi)) (h i hi)

/-- What a map holds whose keys of T are gone. -/
def keptM (S : Nat → ByteArray) (m : Nat) (pb : Nat → Nat) (T : Nat → ByteArray) (nd : Nat) (s : List UInt8) : Option Nat :=
  if (lastIdx T s nd).isSome then none else (lastIdx S s m).map pb

/-- The storage, its manager, the ids, the pointers, the numbers and the nodes. -/
structure All (w : World) (gb sb mb mx rb m : Nat) (a : Option Addr) (S : Nat → ByteArray) (a1 : Option Addr) (n1 : Nat) (Z : Nat → Int) (a2 : Option Addr) (n2 : Nat) (N : Nat → ByteArray) (pb : Nat → Nat) (ad : Option Addr) (nd : Nat) (T : Nat → ByteArray) : Prop where
  mgr : Mgr w gb sb mb mx (keptM S m pb T nd)
  cnt : ∀ i, i < m → Cnt w (pb i) (Z i) (N i)
  ptr : Ptrs w rb m pb
  keys : Strs w a m S
  ints : Ints w a1 n1 Z
  nodes : Strs w a2 n2 N
  dels : Strs w ad nd T
/-- What holds of the lengths. -/
structure Lens (m n1 n2 nd : Nat) (N : Nat → ByteArray) : Prop where
  m0 : m ≤ 4096
  m1 : m ≤ n1
  m2 : m ≤ n2
  d : nd ≤ 4096
  size : ∀ i, i < n2 → (N i).size ≤ maxLen
theorem All.later {w w' : World} {gb sb mb mx rb m : Nat} {a : Option Addr} {S : Nat → ByteArray} {a1 : Option Addr} {n1 : Nat} {Z : Nat → Int} {a2 : Option Addr} {n2 : Nat} {N : Nat → ByteArray} {pb : Nat → Nat} {ad : Option Addr} {nd : Nat} {T : Nat → ByteArray}
    (h : All w gb sb mb mx rb m a S a1 n1 Z a2 n2 N pb ad nd T) (hb : Below w.heap.size w w') : All w' gb sb mb mx rb m a S a1 n1 Z a2 n2 N pb ad nd T :=
  ⟨h.mgr.later hb, fun i hi => (h.cnt i hi).later hb, h.ptr.later hb, h.keys.later hb, h.ints.later hb, h.nodes.later hb, h.dels.later hb⟩

set_option maxRecDepth 100000 in
set_option maxHeartbeats 1600000 in
/-- zzManagedIs. -/
theorem managed27 {gb sb mb mx rb m : Nat} {a : Option Addr} {S : Nat → ByteArray} {a1 : Option Addr} {n1 : Nat} {Z : Nat → Int} {a2 : Option Addr} {n2 : Nat} {N : Nat → ByteArray} {pb : Nat → Nat} {ad : Option Addr} {nd : Nat} {T : Nat → ByteArray}
    (c rc c1 c2 cd : Nat) (k : ByteArray) (hk : k.size ≤ maxLen) (w : World) (h : All w gb sb mb mx rb m a S a1 n1 Z a2 n2 N pb ad nd T) (hL : Lens m n1 n2 nd N) :
    Calls Try.prog 27 #[.pointer (some ⟨gb, 0, none⟩), .slice a m c, .slice (some ⟨rb, 0, none⟩) m rc, .slice a1 n1 c1, .slice a2 n2 c2, .slice ad nd cd, .string k] w fun e w' => e = .returned (.bool true) ∧ Below w.heap.size w w' := by
  have H := hide h; have HL := hide hL; have HK := hide hk
  clear h hL hk
  cases hl : lastIdx S k.data.toList m with
  | none =>
    have hM : keptM S m pb T nd k.data.toList = none := by simp [keptM, hl]
    go_enter Try.func27, Try.ntmps27
    go_wp2_with fail
    refine (get29_none gb sb mb mx _ k HK.out w H.out.mgr hM).mono ?_
    rintro e w1 ⟨rfl, hb1⟩
    have HB := hide hb1; clear hb1
    go_wp2_with fail
    have h28 := last28 a m c S k w1 HL.out.m0 (H.out.later HB.out).keys
    rw [hl] at h28
    refine h28.mono ?_
    rintro e w2 ⟨rfl, hw2⟩
    obtain rfl : w1 = w2 := hw2.symm
    clear hw2 h28
    simp only [lastV]
    go_wp2
    go_ret
    exact ⟨rfl, HB.out⟩
  | some i =>
    have hi := lastIdx_lt _ _ _ _ hl
    have HI := hide hi
    have i0 : (0 : Int) ≤ (i : Int) := by omega
    cases hd : (lastIdx T k.data.toList nd).isSome with
    | true =>
      have hM : keptM S m pb T nd k.data.toList = none := by simp [keptM, hd]
      go_enter Try.func27, Try.ntmps27
      go_wp2_with fail
      refine (get29_none gb sb mb mx _ k HK.out w H.out.mgr hM).mono ?_
      rintro e w1 ⟨rfl, hb1⟩
      have HB := hide hb1; clear hb1
      go_wp2_with fail
      have h28 := last28 a m c S k w1 HL.out.m0 (H.out.later HB.out).keys
      rw [hl] at h28
      refine h28.mono ?_
      rintro e w2 ⟨rfl, hw2⟩
      obtain rfl : w1 = w2 := hw2.symm
      clear hw2 h28
      simp only [lastV]
      go_wp2_with fail
      have h32 := in32 ad nd cd T k w1 HL.out.d (H.out.later HB.out).dels
      rw [hd] at h32
      refine h32.mono ?_
      rintro e w2 ⟨rfl, hw2⟩
      obtain rfl : w1 = w2 := hw2.symm
      clear hw2 h32
      go_wp2
      go_ret
      exact ⟨rfl, HB.out⟩
    | false =>
      have hM : keptM S m pb T nd k.data.toList = some (pb i) := by simp [keptM, hd, hl]
      go_enter Try.func27, Try.ntmps27
      go_wp2_with fail
      refine (get29_some gb sb mb mx _ k HK.out (pb i) (Z i) (N i) w H.out.mgr hM (H.out.cnt i HI.out)).mono ?_
      rintro e w1 ⟨⟨b, rfl, hbb, hcb⟩, hb1⟩
      have hne : b ≠ pb i := by have := (H.out.cnt i HI.out).lt; omega
      have HB := hide hb1; have HC := hide hcb; clear hb1 hbb hcb
      go_wp2_with fail
      have h28 := last28 a m c S k w1 HL.out.m0 (H.out.later HB.out).keys
      rw [hl] at h28
      refine h28.mono ?_
      rintro e w2 ⟨rfl, hw2⟩
      obtain rfl : w1 = w2 := hw2.symm
      clear hw2 h28
      simp only [lastV]
      go_wp2_with fail
      have h32 := in32 ad nd cd T k w1 HL.out.d (H.out.later HB.out).dels
      rw [hd] at h32
      refine h32.mono ?_
      rintro e w2 ⟨rfl, hw2⟩
      obtain rfl : w1 = w2 := hw2.symm
      clear hw2 h32
      have j0 : (i : Int) < (m : Int) := by have := HI.out; omega
      have j1 : (i : Int) < (n1 : Int) := by have := HI.out; have := HL.out.m1; omega
      have j2 : (i : Int) < (n2 : Int) := by have := HI.out; have := HL.out.m2; omega
      have d0 := (H.out.later HB.out).ptr i HI.out
      obtain ⟨b1, o1, e1, d1⟩ := (H.out.later HB.out).ints i (by omega)
      obtain ⟨b2, o2, e2, d2⟩ := (H.out.later HB.out).nodes i (by omega)
      have hs := HL.out.size i (by omega)
      have hci := (H.out.later HB.out).cnt i HI.out
      have HS := hide hs; have HCI := hide hci
      have hq : ∀ n, (binOp .neq 39 (.pointer (some ⟨b, 0, none⟩)) (.pointer (some ⟨pb i, 0, none⟩))).run Try.prog (w1.drewN n) = .ok (.bool true) (w1.drewN n) := by
        obtain ⟨_, x1, _⟩ := HC.out.out
        obtain ⟨_, x2, _⟩ := hci.out
        exact fun n => neq39 hne (w := w1.drewN n) x1 x2
      clear hs hci
      subst e1 e2
      go_wp2_with fail
      go_quiet (first | (go_at_call_of 30 b; refine Calls.quiet_of_same (intact30 b (Z i) (N i) HS.out _ (HC.out.drewN _))) | (go_at_call_of 30 (pb i); refine Calls.quiet_of_same (intact30 (pb i) (Z i) (N i) HS.out _ (HCI.out.drewN _))))
      go_wp2
      go_ret
      exact ⟨rfl, Below.from HB.out (below_drewN _ _)⟩
end Go.Proofs.Qxb6613483a

import Derived.Test.Qxb6613483aMgr
namespace Go.Proofs.Qxb6613483a
open Go.RowKit Go.MuLone Go.Maps
set_option linter.unusedSimpArgs false

/-- A count whose set lies from block lo on. -/
structure CntN (w : World) (pb lo : Nat) (z : Int) (s : ByteArray) : Prop where
  mk' ::
  out : ∃ nb, w.heap[pb]? = some (.cells #[.int .i64 z, .map (some nb)] 47 (0, 0)) ∧ Node w nb s.data.toList ∧ lo ≤ nb
theorem CntN.mono {w : World} {pb lo lo' : Nat} {z : Int} {s : ByteArray} (h : CntN w pb lo z s) (hl : lo' ≤ lo) : CntN w pb lo' z s := by
  obtain ⟨nb, h1, h2, h3⟩ := h.out
  exact ⟨nb, h1, h2, Nat.le_trans hl h3⟩
theorem CntN.held {w w' : World} {gb pb lo : Nat} {z : Int} {s : ByteArray} {cs : Array Value} (h : CntN w pb lo z s) (hg : w.heap[gb]? = some (.cells cs 62 (0, 0))) (hf : Fr [gb] w w') : CntN w' pb lo z s := by
  obtain ⟨nb, h1, h2, h3⟩ := h.out
  have e1 : pb ≠ gb := by
    intro e
    rw [e, hg] at h1
    simp at h1
  have e2 : nb ≠ gb := by
    obtain ⟨es, c, hb⟩ := h2.block
    intro e
    rw [e, hg] at hb
    simp at hb
  exact ⟨nb, (hf.block pb (lt_of h1) (by simpa using e1)).trans h1, h2.grown hf.grownBy (by simpa using e2), h3⟩

/-- (*ReferenceCount).clone: the copy's set is new too. -/
theorem clone35_new (pb : Nat) (z : Int) (s : ByteArray) (w : World) (h : Cnt w pb z s) :
    Calls Try.prog 35 #[.pointer (some ⟨pb, 0, none⟩)] w fun e w' => (∃ b, e = .returned (.pointer (some ⟨b, 0, none⟩)) ∧ w.heap.size ≤ b ∧ CntN w' b w.heap.size z s) ∧ Below w.heap.size w w' := by
  obtain ⟨nb, h1, h2⟩ := h.out
  have c0 : w.cell? ⟨pb, 0, none⟩ = some (.int .i64 z) := (cell_of h1 0).trans rfl
  have c1 : w.cell? ⟨pb, 1, none⟩ = some (.map (some nb)) := (cell_of h1 1).trans rfl
  have hl := fun ty => h2.len ty
  have hm := make45 1 w
  have e1 : (w.alloc (.map #[] 0)).cell? ⟨pb, 1, none⟩ = some (.map (some nb)) := cell_kept (below_alloc _ _) (lt_of h1) c1
  have H1 := hide h1; have H2 := hide h2
  clear h h1 h2
  go_enter Try.func35, Try.ntmps35
  go_wp2_with fail
  refine (copy38 w.heap.size nb s.data.toList (w.alloc (.map #[] 0)) (new_at _ _) (H2.out.later (below_alloc _ _)) (by have := H2.out.lt; omega)).mono ?_
  rintro e w2 ⟨rfl, hn2, hg2⟩
  have b2 : Below w.heap.size w w2 := ((Below.refl _ _).alloc (Nat.le_refl _) _).grown hg2 (by simp) (fun j hj => by cases hj; exact Nat.le_refl _)
  have d0 : w2.cell? ⟨pb, 0, none⟩ = some (.int .i64 z) := cell_kept b2 (lt_of H1.out) c0
  have HN := hide hn2; have HB := hide b2
  clear hl hm hg2 hn2 b2 c0 c1 e1
  go_wp2
  go_ret
  exact ⟨⟨_, rfl, HB.out.size, ⟨_, new_at _ _, HN.out.later (below_alloc _ _), Nat.le_refl _⟩⟩, Below.from HB.out (below_alloc _ _)⟩

set_option maxRecDepth 100000 in
set_option maxHeartbeats 800000 in
/-- (*Manager).GetRefCount of a layer that is kept: a copy, whose set is new too. -/
theorem get29_new (gb sb mb n : Nat) (M : List UInt8 → Option Nat) (k : ByteArray) (hk : k.size ≤ maxLen) (pb : Nat) (z : Int) (s : ByteArray) (w : World) (h : Mgr w gb sb mb n M) (hM : M k.data.toList = some pb) (hc : Cnt w pb z s) :
    Calls Try.prog 29 #[.pointer (some ⟨gb, 0, none⟩), .string k] w fun e w' => (∃ b, e = .returned (.pointer (some ⟨b, 0, none⟩)) ∧ w.heap.size ≤ b ∧ CntN w' b w.heap.size z s) ∧ Below w.heap.size w w' := by
  have c0 : w.cell? ⟨gb, 0, none⟩ = some (.int .i32 0) := (cell_of h.mgr 0).trans rfl
  have f0 := free_of h.mgr 0
  have hme := method27 sb
  have H := hide h; have HK := hide hk; have HM := hide hM; have HC := hide hc; clear h hk hM hc
  go_enter_defers Try.func29, Try.ntmps29
  go_wp2_with fail
  refine (lock_free Try.muLib ⟨gb, 0, none⟩ _ c0 f0).mono ?_
  rintro e w1 ⟨rfl, hw1⟩
  have k1 := set_same H.out.mgr 0 (.int .i32 1)
  rw [← hw1] at k1
  simp only [List.setIfInBounds_toArray, List.set_cons_zero, List.set_cons_succ] at k1
  have fr1 : Fr [gb] w w1 := by rw [hw1]; exact (Fr.refl _ _).setCell (by simp) _ _
  clear hw1 c0 f0
  have c2 : w1.cell? ⟨gb, 2, none⟩ = some (.iface 27 (.pointer (some ⟨sb, 0, none⟩))) := (cell_of k1 2).trans rfl
  have K1 := hide k1; have FR1 := hide fr1
  clear k1 fr1
  go_wp2_with fail
  refine (get24 sb mb n M k HK.out w1 (H.out.held FR1.out).1 (H.out.held FR1.out).2).mono ?_
  rintro e w2 ⟨rfl, hw2⟩
  obtain rfl : w1 = w2 := hw2.symm
  rw [HM.out]
  simp only [ptrV]
  clear hw2 hme c2
  go_wp2_with fail
  refine (clone35_new pb z s w1 (HC.out.held H.out.mgr FR1.out)).mono ?_
  rintro e w3 ⟨⟨b, rfl, hb3, hc3⟩, hbel⟩
  have k3 := kept hbel K1.out
  have fr3 : Fr [gb] w w3 := FR1.out.trans (Fr.of_below hbel)
  have hb3' : w.heap.size ≤ b := Nat.le_trans FR1.out.size hb3
  replace hc3 := hc3.mono FR1.out.size
  have K3 := hide k3; have FR3 := hide fr3; have HC3 := hide hc3; have HB3 := hide hb3'
  clear hb3 hc3 hbel k3 fr3 hb3'
  go_wp2_with fail
  refine leaves_cons (f := 34) (args := #[.pointer (some ⟨gb, 0, none⟩)]) (by simp) (by simp [go_sem]) ?_
  refine (unlock_deferred Try.muLib ⟨gb, 0, none⟩ .returning _ ((cell_of K3.out 0).trans rfl) (free_of K3.out 0)).mono ?_
  rintro e u' w'' ⟨rfl, rfl, rfl⟩
  have k4 := set_same K3.out 0 (.int .i32 0)
  simp only [List.setIfInBounds_toArray, List.set_cons_zero, List.set_cons_succ] at k4
  exact ⟨_, results_tmp rfl _ _ _, ⟨b, rfl, HB3.out, HC3.out.held K3.out ((Fr.refl _ _).setCell (by simp) _ _)⟩, (FR3.out.setCell (by simp) _ _).back H.out.mgr k4⟩
end Go.Proofs.Qxb6613483a

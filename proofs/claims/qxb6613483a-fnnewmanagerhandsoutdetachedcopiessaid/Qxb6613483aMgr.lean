import Derived.Test.Qxb6613483aClone
namespace Go.Proofs.Qxb6613483a
open Go.RowKit Go.MuLone Go.Maps
set_option linter.unusedSimpArgs false

/-- A manager's cells. -/
abbrev mcells (x : Int) (sb : Nat) : Array Value := #[.int .i32 x, .int .u32 0, .iface 27 (.pointer (some ⟨sb, 0, none⟩))]
/-- A manager that is not locked, its storage, and the storage's map. -/
structure Mgr (w : World) (gb sb mb n : Nat) (M : List UInt8 → Option Nat) : Prop where
  mgr : w.heap[gb]? = some (.cells (mcells 0 sb) 62 (0, 0))
  store : w.heap[sb]? = some (.cells #[.map (some mb)] 50 (0, 0))
  reads : Reads w mb n M
theorem Mgr.later {w w' : World} {gb sb mb n : Nat} {M : List UInt8 → Option Nat} (h : Mgr w gb sb mb n M) (hb : Below w.heap.size w w') : Mgr w' gb sb mb n M := ⟨kept hb h.mgr, kept hb h.store, h.reads.later hb⟩

theorem method27 (sb : Nat) (w : World) : (method 194 27 (.pointer (some ⟨sb, 0, none⟩)) "GetRefCount").run Try.prog w = .ok (24, .pointer (some ⟨sb, 0, none⟩)) w := by kernel_rfl

theorem Fr.grownBy {g : Nat} {w w' : World} (h : Fr [g] w w') : w.grownBy w' (some g) := ⟨h.os, h.tape, h.output, h.size, fun i hi hne => h.block i hi (by simpa using fun e : i = g => hne (by rw [e]))⟩
theorem Mgr.ne {w : World} {gb sb mb n : Nat} {M : List UInt8 → Option Nat} (h : Mgr w gb sb mb n M) : sb ≠ gb ∧ mb ≠ gb := by
  obtain ⟨es, c, hb⟩ := h.reads.block
  constructor
  · intro e
    have := h.store
    rw [e, h.mgr] at this
    simp at this
  · intro e
    rw [e, h.mgr] at hb
    simp at hb
/-- What the manager's method sees while it holds the lock. -/
theorem Mgr.held {w w' : World} {gb sb mb n : Nat} {M : List UInt8 → Option Nat} (h : Mgr w gb sb mb n M) (hf : Fr [gb] w w') : w'.cell? ⟨sb, 0, none⟩ = some (.map (some mb)) ∧ Reads w' mb n M := by
  obtain ⟨h1, h2⟩ := h.ne
  have h3 : w'.heap[sb]? = some (.cells #[.map (some mb)] 50 (0, 0)) := (hf.block sb (lt_of h.store) (by simpa using h1)).trans h.store
  exact ⟨(cell_of h3 0).trans rfl, h.reads.grown hf.grownBy (by simpa using h2)⟩
theorem Cnt.held {w w' : World} {gb pb : Nat} {z : Int} {s : ByteArray} {cs : Array Value} (h : Cnt w pb z s) (hg : w.heap[gb]? = some (.cells cs 62 (0, 0))) (hf : Fr [gb] w w') : Cnt w' pb z s := by
  obtain ⟨nb, h1, h2⟩ := h.out
  have e1 : pb ≠ gb := by
    intro e
    rw [e, hg] at h1
    simp at h1
  have e2 : nb ≠ gb := by
    obtain ⟨es, c, hb⟩ := h2.block
    intro e
    rw [e, hg] at hb
    simp at hb
  exact ⟨nb, (hf.block pb (lt_of h1) (by simpa using e1)).trans h1, h2.grown hf.grownBy (by simpa using e2)⟩
/-- Behind the method all is as it was. -/
theorem Fr.back {w w' : World} {gb : Nat} {o : Obj} (hf : Fr [gb] w w') (h : w.heap[gb]? = some o) (h' : w'.heap[gb]? = some o) : Below w.heap.size w w' :=
  ⟨hf.os, hf.tape, hf.output, hf.size, fun i hi => by
    by_cases e : i = gb
    · rw [e, h, h']
    · exact hf.block i hi (by simpa using e)⟩

set_option maxRecDepth 100000 in
set_option maxHeartbeats 800000 in
/-- (*Manager).GetRefCount of a layer that is not kept. -/
theorem get29_none (gb sb mb n : Nat) (M : List UInt8 → Option Nat) (k : ByteArray) (hk : k.size ≤ maxLen) (w : World) (h : Mgr w gb sb mb n M) (hM : M k.data.toList = none) :
    Calls Try.prog 29 #[.pointer (some ⟨gb, 0, none⟩), .string k] w fun e w' => e = .returned (.pointer none) ∧ Below w.heap.size w w' := by
  have c0 : w.cell? ⟨gb, 0, none⟩ = some (.int .i32 0) := (cell_of h.mgr 0).trans rfl
  have f0 := free_of h.mgr 0
  have hme := method27 sb
  have H := hide h; have HK := hide hk; have HM := hide hM; clear h hk hM
  go_enter_defers Try.func29, Try.ntmps29
  go_wp2_with fail
  refine (lock_free Try.muLib ⟨gb, 0, none⟩ _ c0 f0).mono ?_
  rintro e w1 ⟨rfl, hw1⟩
  have k1 := set_same H.out.mgr 0 (.int .i32 1)
  rw [← hw1] at k1
  simp only [List.setIfInBounds_toArray, List.set_cons_zero, List.set_cons_succ] at k1
  have fr1 : Fr [gb] w w1 := by rw [hw1]; exact (Fr.refl _ _).setCell (by simp) _ _
  clear hw1 c0 f0
  have c2 : w1.cell? ⟨gb, 2, none⟩ = some (.iface 27 (.pointer (some ⟨sb, 0, none⟩))) := (cell_of k1 2).trans rfl
  have K1 := hide k1; have FR1 := hide fr1
  clear k1 fr1
  go_wp2_with fail
  refine (get24 sb mb n M k HK.out w1 (H.out.held FR1.out).1 (H.out.held FR1.out).2).mono ?_
  rintro e w2 ⟨rfl, hw2⟩
  obtain rfl : w1 = w2 := hw2.symm
  rw [HM.out]
  simp only [ptrV]
  go_wp2_with fail
  refine leaves_cons (f := 34) (args := #[.pointer (some ⟨gb, 0, none⟩)]) (by simp) (by simp [go_sem]) ?_
  refine (unlock_deferred Try.muLib ⟨gb, 0, none⟩ .returning _ ((cell_of K1.out 0).trans rfl) (free_of K1.out 0)).mono ?_
  rintro e u' w'' ⟨rfl, rfl, rfl⟩
  have k2 := set_same K1.out 0 (.int .i32 0)
  simp only [List.setIfInBounds_toArray, List.set_cons_zero, List.set_cons_succ] at k2
  exact ⟨_, results_tmp rfl _ _ _, rfl, (FR1.out.setCell (by simp) _ _).back H.out.mgr k2⟩

set_option maxRecDepth 100000 in
set_option maxHeartbeats 800000 in
/-- (*Manager).GetRefCount of a layer that is kept: a copy. -/
theorem get29_some (gb sb mb n : Nat) (M : List UInt8 → Option Nat) (k : ByteArray) (hk : k.size ≤ maxLen) (pb : Nat) (z : Int) (s : ByteArray) (w : World) (h : Mgr w gb sb mb n M) (hM : M k.data.toList = some pb) (hc : Cnt w pb z s) :
    Calls Try.prog 29 #[.pointer (some ⟨gb, 0, none⟩), .string k] w fun e w' => (∃ b, e = .returned (.pointer (some ⟨b, 0, none⟩)) ∧ w.heap.size ≤ b ∧ Cnt w' b z s) ∧ Below w.heap.size w w' := by
  have c0 : w.cell? ⟨gb, 0, none⟩ = some (.int .i32 0) := (cell_of h.mgr 0).trans rfl
  have f0 := free_of h.mgr 0
  have hme := method27 sb
  have H := hide h; have HK := hide hk; have HM := hide hM; have HC := hide hc; clear h hk hM hc
  go_enter_defers Try.func29, Try.ntmps29
  go_wp2_with fail
  refine (lock_free Try.muLib ⟨gb, 0, none⟩ _ c0 f0).mono ?_
  rintro e w1 ⟨rfl, hw1⟩
  have k1 := set_same H.out.mgr 0 (.int .i32 1)
  rw [← hw1] at k1
  simp only [List.setIfInBounds_toArray, List.set_cons_zero, List.set_cons_succ] at k1
  have fr1 : Fr [gb] w w1 := by rw [hw1]; exact (Fr.refl _ _).setCell (by simp) _ _
  clear hw1 c0 f0
  have c2 : w1.cell? ⟨gb, 2, none⟩ = some (.iface 27 (.pointer (some ⟨sb, 0, none⟩))) := (cell_of k1 2).trans rfl
  have K1 := hide k1; have FR1 := hide fr1
  clear k1 fr1
  go_wp2_with fail
  refine (get24 sb mb n M k HK.out w1 (H.out.held FR1.out).1 (H.out.held FR1.out).2).mono ?_
  rintro e w2 ⟨rfl, hw2⟩
  obtain rfl : w1 = w2 := hw2.symm
  rw [HM.out]
  simp only [ptrV]
  clear hw2 hme c2
  go_wp2_with fail
  refine (clone35 pb z s w1 (HC.out.held H.out.mgr FR1.out)).mono ?_
  rintro e w3 ⟨⟨b, rfl, hb3, hc3⟩, hbel⟩
  have k3 := kept hbel K1.out
  have fr3 : Fr [gb] w w3 := FR1.out.trans (Fr.of_below hbel)
  have hb3' : w.heap.size ≤ b := Nat.le_trans FR1.out.size hb3
  have K3 := hide k3; have FR3 := hide fr3; have HC3 := hide hc3; have HB3 := hide hb3'
  clear hb3 hc3 hbel k3 fr3 hb3'
  go_wp2_with fail
  refine leaves_cons (f := 34) (args := #[.pointer (some ⟨gb, 0, none⟩)]) (by simp) (by simp [go_sem]) ?_
  refine (unlock_deferred Try.muLib ⟨gb, 0, none⟩ .returning _ ((cell_of K3.out 0).trans rfl) (free_of K3.out 0)).mono ?_
  rintro e u' w'' ⟨rfl, rfl, rfl⟩
  have k4 := set_same K3.out 0 (.int .i32 0)
  simp only [List.setIfInBounds_toArray, List.set_cons_zero, List.set_cons_succ] at k4
  exact ⟨_, results_tmp rfl _ _ _, ⟨b, rfl, HB3.out, HC3.out.held K3.out ((Fr.refl _ _).setCell (by simp) _ _)⟩, (FR3.out.setCell (by simp) _ _).back H.out.mgr k4⟩
end Go.Proofs.Qxb6613483a

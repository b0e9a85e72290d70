import Derived.Test.Qxb6605831aMem
import Derived.Test.Qxb6605831aProg
import Derived.RegionTactic
import Derived.Deep.QuietTactic
import Derived.BigQuiet
import Derived.BigRegion
namespace Go.Proofs.Qxb6605831a
open Go.RowKit

/-- Of the old blocks all but those of X are as they were. -/
structure Fr (X : List Nat) (w w' : World) : Prop where
  os : w'.os = w.os
  tape : w'.tape = w.tape
  output : w'.output = w.output
  size : w.heap.size ≤ w'.heap.size
  block : ∀ k, k < w.heap.size → k ∉ X → w'.heap[k]? = w.heap[k]?
theorem Fr.refl (X : List Nat) (w : World) : Fr X w w := ⟨rfl, rfl, rfl, Nat.le_refl _, fun _ _ _ => rfl⟩
theorem Fr.trans {X : List Nat} {a b c : World} (h : Fr X a b) (k : Fr X b c) : Fr X a c :=
  ⟨k.os.trans h.os, k.tape.trans h.tape, k.output.trans h.output, Nat.le_trans h.size k.size, fun i hi hx => (k.block i (Nat.lt_of_lt_of_le hi h.size) hx).trans (h.block i hi hx)⟩
theorem Fr.mono {X Y : List Nat} {a b : World} (h : Fr X a b) (hs : ∀ k, k < a.heap.size → k ∈ X → k ∈ Y) : Fr Y a b :=
  ⟨h.os, h.tape, h.output, h.size, fun i hi hx => h.block i hi fun hm => hx (hs i hi hm)⟩
theorem Fr.below {X : List Nat} {a b : World} {B : Nat} (h : Fr X a b) (hB : B ≤ a.heap.size) (hs : ∀ k, k ∈ X → B ≤ k) : Below B a b :=
  ⟨h.os, h.tape, h.output, h.size, fun i hi => h.block i (by omega) fun hm => by have := hs i hm; omega⟩
theorem Fr.of_below {X : List Nat} {a b : World} (h : Below a.heap.size a b) : Fr X a b := ⟨h.os, h.tape, h.output, h.size, fun i hi _ => h.block i hi⟩
theorem Fr.setCell {X : List Nat} {a w : World} (h : Fr X a w) {b : Nat} (hb : b ∈ X) (o : Nat) (u : Value) : Fr X a (w.setCell ⟨b, o, none⟩ u) :=
  h.trans ⟨rfl, rfl, rfl, by simp, fun k _ hx => set_other _ _ fun e => hx (by rw [e]; exact hb)⟩
theorem Fr.alloc {X : List Nat} {a w : World} (h : Fr X a w) (o : Obj) : Fr X a (w.alloc o) := h.trans (Fr.of_below ((Below.refl _ _).alloc (Nat.le_refl _) _))
theorem Fr.drew {X : List Nat} {a w : World} (h : Fr X a w) : Fr X a w.drew := ⟨h.os, h.tape, h.output, h.size, h.block⟩
theorem Fr.grown {X : List Nat} {a w w' : World} {row : Option Nat} (h : Fr X a w) (hg : w.grownBy w' row) (hr : ∀ k, row = some k → k < a.heap.size → k ∈ X) : Fr X a w' :=
  ⟨hg.os.trans h.os, hg.tape.trans h.tape, hg.output.trans h.output, Nat.le_trans h.size hg.size, fun k hk hx => (hg.block k (Nat.lt_of_lt_of_le hk h.size) fun e => hx (hr k e.symm hk)).trans (h.block k hk hx)⟩

theorem Fr.drewN {X : List Nat} {a w : World} (h : Fr X a w) (n : Nat) : Fr X a (w.drewN n) := ⟨h.os, h.tape, h.output, h.size, h.block⟩

/-- A Writer's ten cells. -/
def wcells (page spare : Value) (infl given handed : Int) (tb fb sb rb : Nat) : Array Value :=
  #[page, spare, .int .i64 infl, .int .i64 given, .int .i64 handed, .nilIface, .chan (some tb), .chan (some fb), .chan (some sb), .pointer (some ⟨rb, 0, none⟩)]

set_option maxRecDepth 100000 in
set_option maxHeartbeats 400000 in
theorem take29 (wb spb n cap : Nat) (page : Value) (q : Value) (infl given handed : Int) (tb fb sb rb : Nat) (hn : n + 1 ≤ 100) (hcap : n + 1 ≤ cap) (w : World)
    (hw : w.heap[wb]? = some (.cells (wcells page (.slice (some ⟨spb, 0, none⟩) (n + 1) cap) infl given handed tb fb sb rb) 95 (0, 0)))
    (hq : w.cell? ⟨spb, n, none⟩ = some q) :
    Calls Try.prog 29 #[.pointer (some ⟨wb, 0, none⟩)] w fun e w' => e = .returned q ∧ Fr [wb] w w' ∧ w'.heap.size = w.heap.size ∧
      w'.heap[wb]? = some (.cells (wcells page (.slice (some ⟨spb, 0, none⟩) n cap) infl given handed tb fb sb rb) 95 (0, 0)) := by
  have HW := hide hw
  have h1 : w.cell? ⟨wb, 1, none⟩ = some (.slice (some ⟨spb, 0, none⟩) (n + 1) cap) := by rw [cell_of hw]; rfl
  have hf := free_of hw 1
  clear hw

  go_enter Try.func29, Try.ntmps29
  go_wp2
  go_quiet (fail)
  go_wp2
  go_region
  go_wp2
  go_ret
  exact ⟨rfl, ((Fr.refl _ w).drewN _).setCell (by simp) _ _, by simp [World.drewN], set_same (w := w.drewN (nq + 1)) HW.out 1 _⟩
end Go.Proofs.Qxb6605831a

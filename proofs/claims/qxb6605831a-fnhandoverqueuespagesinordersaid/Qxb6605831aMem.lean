import Derived.WalkKit
import Derived.WalkSpells
namespace Go.Proofs.Qxb6605831a
open Go.RowKit

/-- A fact kept from the walk. -/
theorem hide {p : Prop} (h : p) : Hid p := h

theorem cell_of {w : World} {b : Nat} {cs : Array Value} {t : TypeId} {f : Nat × Nat} (h : w.heap[b]? = some (.cells cs t f)) (o : Nat) : w.cell? ⟨b, o, none⟩ = cs[o]? := by
  simp [World.cell?, h]
theorem free_of {w : World} {b : Nat} {cs : Array Value} {t : TypeId} (h : w.heap[b]? = some (.cells cs t (0, 0))) (o : Nat) : w.frozen? ⟨b, o, none⟩ = false := by
  simp [World.frozen?, h]
theorem set_same {w : World} {b : Nat} {cs : Array Value} {t : TypeId} {f : Nat × Nat} (h : w.heap[b]? = some (.cells cs t f)) (o : Nat) (v : Value) :
    (w.setCell ⟨b, o, none⟩ v).heap[b]? = some (.cells (cs.setIfInBounds o v) t f) := by
  simp [World.setCell, Array.getElem?_modify, h]
theorem set_other {w : World} {b k : Nat} (o : Nat) (v : Value) (h : k ≠ b) : (w.setCell ⟨b, o, none⟩ v).heap[k]? = w.heap[k]? :=
  Below.heap_setCell w _ v k h
theorem new_at (w : World) (o : Obj) : (w.alloc o).heap[w.heap.size]? = some o := heap_alloc_new w o
theorem old_at {w : World} {k : Nat} (o : Obj) (h : k < w.heap.size) : (w.alloc o).heap[k]? = w.heap[k]? := Below.heap_alloc w o k h

theorem set_alloc (w : World) (cs : Array Value) (t : TypeId) (k : Nat) (v : Value) : (w.alloc (.cells cs t)).setCell ⟨w.heap.size, k, none⟩ v = w.alloc (.cells (cs.setIfInBounds k v) t) := by
  have e : ∀ o : Obj, w.alloc o = { w with heap := w.heap.push o } := fun _ => rfl
  rw [e, e, World.setCell]
  congr 1
  apply Array.ext_getElem?
  intro i
  rw [Array.getElem?_modify]
  by_cases h : w.heap.size = i
  · subst h; simp
  · simp [h, Array.getElem?_push]; split <;> simp_all

theorem lt_of {w : World} {b : Nat} {o : Obj} (h : w.heap[b]? = some o) : b < w.heap.size := lt_of_block h

/-- A cell below B stays. -/
theorem cell_kept {B : Nat} {w w' : World} (h : Below B w w') {b o : Nat} {v : Value} (ha : b < B) (hc : w.cell? ⟨b, o, none⟩ = some v) : w'.cell? ⟨b, o, none⟩ = some v := (h.cell (p := ⟨b, o, none⟩) ha).trans hc
end Go.Proofs.Qxb6605831a

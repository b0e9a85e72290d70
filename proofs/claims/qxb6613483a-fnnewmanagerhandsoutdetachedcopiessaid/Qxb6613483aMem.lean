import Derived.Test.Qxb6613483aProg
import Derived.WalkKit
import Derived.WalkSpells
import Derived.Deep.Draws
import Derived.Maps.RangeWalk
import Derived.KernelRfl
namespace Go.Proofs.Qxb6613483a
open Go.RowKit Go.Maps

/-- A fact kept from the walk. -/
theorem hide {p : Prop} (h : p) : Hid p := h

theorem cell_of {w : World} {b : Nat} {cs : Array Value} {t : TypeId} {f : Nat × Nat} (h : w.heap[b]? = some (.cells cs t f)) (o : Nat) : w.cell? ⟨b, o, none⟩ = cs[o]? := by
  simp [World.cell?, h]
theorem free_of {w : World} {b : Nat} {cs : Array Value} {t : TypeId} (h : w.heap[b]? = some (.cells cs t (0, 0))) (o : Nat) : w.frozen? ⟨b, o, none⟩ = false := by
  simp [World.frozen?, h]
theorem set_same {w : World} {b : Nat} {cs : Array Value} {t : TypeId} {f : Nat × Nat} (h : w.heap[b]? = some (.cells cs t f)) (o : Nat) (v : Value) :
    (w.setCell ⟨b, o, none⟩ v).heap[b]? = some (.cells (cs.setIfInBounds o v) t f) := by
  simp [World.setCell, Array.getElem?_modify, h]
theorem set_other {w : World} {b k : Nat} (o : Nat) (v : Value) (h : k ≠ b) : (w.setCell ⟨b, o, none⟩ v).heap[k]? = w.heap[k]? :=
  Below.heap_setCell w _ v k h
theorem new_at (w : World) (o : Obj) : (w.alloc o).heap[w.heap.size]? = some o := heap_alloc_new w o
theorem old_at {w : World} {k : Nat} (o : Obj) (h : k < w.heap.size) : (w.alloc o).heap[k]? = w.heap[k]? := Below.heap_alloc w o k h
theorem set_alloc (w : World) (cs : Array Value) (t : TypeId) (k : Nat) (v : Value) : (w.alloc (.cells cs t)).setCell ⟨w.heap.size, k, none⟩ v = w.alloc (.cells (cs.setIfInBounds k v) t) := by
  have e : ∀ o : Obj, w.alloc o = { w with heap := w.heap.push o } := fun _ => rfl
  rw [e, e, World.setCell]
  congr 1
  apply Array.ext_getElem?
  intro i
  rw [Array.getElem?_modify]
  by_cases h : w.heap.size = i
  · subst h; simp
  · simp [h, Array.getElem?_push]; split <;> simp_all
theorem lt_of {w : World} {b : Nat} {o : Obj} (h : w.heap[b]? = some o) : b < w.heap.size := lt_of_block h
/-- A cell below B stays. -/
theorem cell_kept {B : Nat} {w w' : World} (h : Below B w w') {b o : Nat} {v : Value} (ha : b < B) (hc : w.cell? ⟨b, o, none⟩ = some v) : w'.cell? ⟨b, o, none⟩ = some v := (h.cell (p := ⟨b, o, none⟩) ha).trans hc
theorem kept {w w' : World} (h : Below w.heap.size w w') {b : Nat} {o : Obj} (hb : w.heap[b]? = some o) : w'.heap[b]? = some o := (h.block b (lt_of hb)).trans hb
theorem below_alloc (w : World) (o : Obj) : Below w.heap.size w (w.alloc o) := (Below.refl _ _).alloc (Nat.le_refl _) o
theorem Below.from {a b c : World} (h : Below a.heap.size a b) (k : Below b.heap.size b c) : Below a.heap.size a c := h.trans (k.mono h.size)

/-- Of the old blocks all but those of X are as they were. -/
structure Fr (X : List Nat) (w w' : World) : Prop where
  os : w'.os = w.os
  tape : w'.tape = w.tape
  output : w'.output = w.output
  size : w.heap.size ≤ w'.heap.size
  block : ∀ k, k < w.heap.size → k ∉ X → w'.heap[k]? = w.heap[k]?
theorem Fr.refl (X : List Nat) (w : World) : Fr X w w := ⟨rfl, rfl, rfl, Nat.le_refl _, fun _ _ _ => rfl⟩
theorem Fr.trans {X : List Nat} {a b c : World} (h : Fr X a b) (k : Fr X b c) : Fr X a c :=
  ⟨k.os.trans h.os, k.tape.trans h.tape, k.output.trans h.output, Nat.le_trans h.size k.size, fun i hi hx => (k.block i (Nat.lt_of_lt_of_le hi h.size) hx).trans (h.block i hi hx)⟩
theorem Fr.below {X : List Nat} {a b : World} {B : Nat} (h : Fr X a b) (hB : B ≤ a.heap.size) (hs : ∀ k, k ∈ X → B ≤ k) : Below B a b :=
  ⟨h.os, h.tape, h.output, h.size, fun i hi => h.block i (by omega) fun hm => by have := hs i hm; omega⟩
theorem Fr.of_below {X : List Nat} {a b : World} (h : Below a.heap.size a b) : Fr X a b := ⟨h.os, h.tape, h.output, h.size, fun i hi _ => h.block i hi⟩
theorem Fr.setCell {X : List Nat} {a w : World} (h : Fr X a w) {b : Nat} (hb : b ∈ X) (o : Nat) (u : Value) : Fr X a (w.setCell ⟨b, o, none⟩ u) :=
  h.trans ⟨rfl, rfl, rfl, by simp, fun k _ hx => set_other _ _ fun e => hx (by rw [e]; exact hb)⟩
theorem Fr.alloc {X : List Nat} {a w : World} (h : Fr X a w) (o : Obj) : Fr X a (w.alloc o) := h.trans (Fr.of_below ((Below.refl _ _).alloc (Nat.le_refl _) _))
theorem Fr.grown {X : List Nat} {a w w' : World} {row : Option Nat} (h : Fr X a w) (hg : w.grownBy w' row) (hr : ∀ k, row = some k → k < a.heap.size → k ∈ X) : Fr X a w' :=
  ⟨hg.os.trans h.os, hg.tape.trans h.tape, hg.output.trans h.output, Nat.le_trans h.size hg.size, fun k hk hx => (hg.block k (Nat.lt_of_lt_of_le hk h.size) fun e => hx (hr k e.symm hk)).trans (h.block k hk hx)⟩
theorem grown_of_below {w w' : World} (h : Below w.heap.size w w') : w.grownBy w' none := ⟨h.os, h.tape, h.output, h.size, fun i hi _ => h.block i hi⟩

def Stop (p : Prop) : Prop := p
theorem stop {p : Prop} (h : Stop p) : p := h

/-! ### maps -/
theorem key9 : Keyed Try.prog 9 := string_keyed Try.underlying9
theorem key_of {s : ByteArray} (hs : s.size ≤ maxLen) : keyOf Try.prog 9 (.string s) = some (.string s.data.toList) := Go.WideMaps.keyOf_string_mk Try.underlying9 hs
theorem zero4 (w : World) : (zeroValue 4).run Try.prog w = .ok (.bool false) w := by kernel_rfl
theorem zero39 (w : World) : (zeroValue 39).run Try.prog w = .ok (.pointer none) w := by kernel_rfl

/-- A pointer to a block's first cell, or nil: as a value; as a datum of ours; as a map's element reads. -/
def ptrV : Option Nat → Value
  | none => .pointer none
  | some b => .pointer (some ⟨b, 0, none⟩)
def ptrD : Option Nat → DataW Unit
  | none => .lit (.bool false)
  | some b => .lit (.int .i64 b)
def ptrElem : Value → Option (DataW Unit × List MemPlace)
  | .pointer none => some (ptrD none, [])
  | .pointer (some a) => if a.off = 0 ∧ a.spot = none then some (ptrD (some a.block), []) else none
  | _ => none
theorem ptrElem_mk (o : Option Nat) : ptrElem (ptrV o) = some (ptrD o, []) := by
  cases o <;> simp [ptrV, ptrElem]
theorem ptrElem_inv {v : Value} {o : Option Nat} {ps : List MemPlace} (h : ptrElem v = some (ptrD o, ps)) : v = ptrV o := by
  unfold ptrElem at h
  split at h
  · cases o <;> simp [ptrD] at h
    rfl
  · split at h
    · rename_i a ha
      cases o with
      | none => simp [ptrD] at h
      | some b =>
        simp [ptrD] at h
        obtain ⟨b', o', s'⟩ := a
        simp at ha h
        obtain ⟨rfl, rfl⟩ := ha
        obtain rfl : b' = b := by omega
        rfl
    · cases h
  · cases h

/-- Block mb is a map of at most n entries that leads from s to the block M s. -/
def Reads (w : World) (mb n : Nat) (M : List UInt8 → Option Nat) : Prop :=
  ∃ D, w.ownsMap (H := Unit) Try.prog 9 ptrElem mb n D ∧ ∀ s, D.atKey (.string s) (ptrD none) = ptrD (M s)
theorem Reads.grown {w w' : World} {mb n : Nat} {M : List UInt8 → Option Nat} (h : Reads w mb n M) {row : Option Nat} (hg : w.grownBy w' row) (hne : some mb ≠ row) : Reads w' mb n M := by
  obtain ⟨D, h1, h2⟩ := h
  exact ⟨D, h1.kept hg hne, h2⟩
theorem Reads.later {w w' : World} {mb n : Nat} {M : List UInt8 → Option Nat} (h : Reads w mb n M) (hb : Below w.heap.size w w') : Reads w' mb n M := h.grown (grown_of_below hb) (by simp)
theorem Reads.lt {w : World} {mb n : Nat} {M : List UInt8 → Option Nat} (h : Reads w mb n M) : mb < w.heap.size := by obtain ⟨D, h1, _⟩ := h; exact h1.lt
theorem Reads.block {w : World} {mb n : Nat} {M : List UInt8 → Option Nat} (h : Reads w mb n M) : ∃ es c, w.heap[mb]? = some (.map es c) := by obtain ⟨D, ⟨es, c, h, _⟩, _⟩ := h; exact ⟨es, c, h⟩
theorem Reads.made (w : World) : Reads (w.alloc (.map #[] 0)) w.heap.size 0 (fun _ => none) :=
  ⟨.map [], World.ownsMap_made _ _ _ _, fun _ => rfl⟩
theorem Reads.lookup {w : World} {mb n : Nat} {M : List UInt8 → Option Nat} (h : Reads w mb n M) {s : ByteArray} (hs : s.size ≤ maxLen) :
    (Instr.lookup 29 (.map (some mb)) (.string s) false).run Try.prog w = .ok (ptrV (M s.data.toList)) w := by
  obtain ⟨D, h1, h2⟩ := h
  obtain ⟨v, ps, hr, hv⟩ := h1.lookup key9 Try.underlying29 (zero39 w) (ptrElem_mk none) (key_of hs)
  rw [h2] at hv
  rw [hr, ptrElem_inv hv]
theorem lit_ne {a b : List UInt8} (h : a ≠ b) : Lit.string a ≠ Lit.string b := fun e => h (by simpa using e)
theorem Reads.store {w : World} {mb n : Nat} {M : List UInt8 → Option Nat} (h : Reads w mb n M) (hn : n < maxLen) {s : ByteArray} (hs : s.size ≤ maxLen) (b : Nat) :
    ∃ w', (Instr.mapUpdate 29 (.map (some mb)) (.string s) (.pointer (some ⟨b, 0, none⟩))).run Try.prog w = .ok () w' ∧ Reads w' mb (n + 1) (fun t => if t = s.data.toList then some b else M t) ∧ w.grownBy w' (some mb) := by
  obtain ⟨D, h1, h2⟩ := h
  obtain ⟨w', hr, ho, hg⟩ := h1.update key9 Try.underlying29 hn (key_of hs) (ptrElem_mk (some b))
  refine ⟨w', hr, ⟨_, ho, fun t => ?_⟩, hg⟩
  by_cases e : t = s.data.toList
  · subst e
    rw [atKey_put_same h1.isMap (by trivial)]
    simp
  · rw [atKey_put_other (lit_ne e), h2]
    simp [e]
theorem Reads.drop {w : World} {mb n : Nat} {M : List UInt8 → Option Nat} (h : Reads w mb n M) {s : ByteArray} (hs : s.size ≤ maxLen) (ty : TypeId) :
    ∃ w', (Builtin.delete_ #[29, 9] ty #[.map (some mb), .string s]).run Try.prog w = .ok (.tuple #[]) w' ∧ Reads w' mb n (fun t => if t = s.data.toList then none else M t) ∧ w.grownBy w' (some mb) := by
  obtain ⟨D, h1, h2⟩ := h
  obtain ⟨w', hr, ho, ht⟩ := h1.drop key9 Try.underlying29 (key_of hs) ty
  refine ⟨w', hr, ⟨_, ho, fun t => ?_⟩, ht.grown⟩
  by_cases e : t = s.data.toList
  · subst e
    rw [atKey_del_same]
    simp
  · rw [atKey_del_other (lit_ne e), h2]
    simp [e]

/-- The datum of a set of one node. -/
def nodeD (s : List UInt8) : DataW Unit := (DataW.map []).put (.string s) (.lit (.bool true))
/-- Block nb is a set that holds s alone. -/
def Node (w : World) (nb : Nat) (s : List UInt8) : Prop := w.ownsMap (H := Unit) Try.prog 9 (plainElem Try.prog 4) nb 1 (nodeD s)
theorem Node.grown {w w' : World} {nb : Nat} {s : List UInt8} (h : Node w nb s) {row : Option Nat} (hg : w.grownBy w' row) (hne : some nb ≠ row) : Node w' nb s := World.ownsMap.kept h hg hne
theorem Node.later {w w' : World} {nb : Nat} {s : List UInt8} (h : Node w nb s) (hb : Below w.heap.size w w') : Node w' nb s := h.grown (grown_of_below hb) (by simp)
theorem Node.lt {w : World} {nb : Nat} {s : List UInt8} (h : Node w nb s) : nb < w.heap.size := World.ownsMap.lt h
theorem Node.block {w : World} {nb : Nat} {s : List UInt8} (h : Node w nb s) : ∃ es c, w.heap[nb]? = some (.map es c) := by obtain ⟨es, c, h, _⟩ := h; exact ⟨es, c, h⟩
theorem size_node (s : List UInt8) : Maps.size (nodeD s) = 1 := rfl
theorem Node.len {w : World} {nb : Nat} {s : List UInt8} (h : Node w nb s) (ty : TypeId) : (Builtin.len_ #[45] ty #[.map (some nb)]).run Try.prog w = .ok (.int .i64 1) w := by
  have := World.ownsMap.len h Try.underlying45 ty
  rw [size_node] at this
  exact this
theorem plainElem_bool_inv {v : Value} {z : DataW Unit × List MemPlace} (h : plainElem Try.prog 4 v = some z) : ∃ x, v = .bool x ∧ z = (.lit (.bool x), []) := by
  unfold plainElem at h
  rw [Try.underlying4] at h
  cases v <;> simp at h
  exact ⟨_, rfl, h.symm⟩
theorem Node.look {w : World} {nb : Nat} {s : ByteArray} (h : Node w nb s.data.toList) (hs : s.size ≤ maxLen) :
    (Instr.lookup 45 (.map (some nb)) (.string s) false).run Try.prog w = .ok (.bool true) w := by
  obtain ⟨v, ps, hr, hv⟩ := World.ownsMap.lookup h key9 Try.underlying45 (zero4 w) (plainElem_bool Try.underlying4 false) (key_of hs)
  obtain ⟨x, rfl, hz⟩ := plainElem_bool_inv hv
  rw [nodeD, atKey_put_same isMap_empty (by trivial)] at hz
  simp at hz
  rw [hr, ← hz.1]
theorem Node.made {w : World} {nb : Nat} (h : w.heap[nb]? = some (.map #[] 0)) {s : ByteArray} (hs : s.size ≤ maxLen) :
    ∃ w', (Instr.mapUpdate 45 (.map (some nb)) (.string s) (.bool true)).run Try.prog w = .ok () w' ∧ Node w' nb s.data.toList ∧ w.grownBy w' (some nb) := by
  have h0 : w.ownsMap (H := Unit) Try.prog 9 (plainElem Try.prog 4) nb 0 (.map []) := ⟨#[], 0, h, ⟨by simp, Go.MapKept.stamped_empty 0, by simp⟩, Nat.le_refl _, rfl⟩
  exact h0.update key9 Try.underlying45 (by unfold maxLen; decide) (key_of hs) (plainElem_bool Try.underlying4 true)
end Go.Proofs.Qxb6613483a

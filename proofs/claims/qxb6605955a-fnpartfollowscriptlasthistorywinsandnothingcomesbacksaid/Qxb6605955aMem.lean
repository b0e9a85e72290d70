import Derived.WalkKit
import Derived.WalkSpells
import Derived.Deep.Draws
import Derived.Deep.AppendLies
namespace Go.Proofs.Qxb6605955a
open Go.RowKit

/-- A fact kept from the walk. -/
theorem hide {p : Prop} (h : p) : Hid p := h

theorem cell_of {w : World} {b : Nat} {cs : Array Value} {t : TypeId} {f : Nat × Nat} (h : w.heap[b]? = some (.cells cs t f)) (o : Nat) : w.cell? ⟨b, o, none⟩ = cs[o]? := by
  simp [World.cell?, h]
theorem free_of {w : World} {b : Nat} {cs : Array Value} {t : TypeId} (h : w.heap[b]? = some (.cells cs t (0, 0))) (o : Nat) : w.frozen? ⟨b, o, none⟩ = false := by
  simp [World.frozen?, h]
theorem set_same {w : World} {b : Nat} {cs : Array Value} {t : TypeId} {f : Nat × Nat} (h : w.heap[b]? = some (.cells cs t f)) (o : Nat) (v : Value) :
    (w.setCell ⟨b, o, none⟩ v).heap[b]? = some (.cells (cs.setIfInBounds o v) t f) := by
  simp [World.setCell, Array.getElem?_modify, h]
theorem set_other {w : World} {b k : Nat} (o : Nat) (v : Value) (h : k ≠ b) : (w.setCell ⟨b, o, none⟩ v).heap[k]? = w.heap[k]? :=
  Below.heap_setCell w _ v k h
theorem new_at (w : World) (o : Obj) : (w.alloc o).heap[w.heap.size]? = some o := heap_alloc_new w o
theorem old_at {w : World} {k : Nat} (o : Obj) (h : k < w.heap.size) : (w.alloc o).heap[k]? = w.heap[k]? := Below.heap_alloc w o k h

theorem set_alloc (w : World) (cs : Array Value) (t : TypeId) (k : Nat) (v : Value) : (w.alloc (.cells cs t)).setCell ⟨w.heap.size, k, none⟩ v = w.alloc (.cells (cs.setIfInBounds k v) t) := by
  have e : ∀ o : Obj, w.alloc o = { w with heap := w.heap.push o } := fun _ => rfl
  rw [e, e, World.setCell]
  congr 1
  apply Array.ext_getElem?
  intro i
  rw [Array.getElem?_modify]
  by_cases h : w.heap.size = i
  · subst h; simp
  · simp [h, Array.getElem?_push]; split <;> simp_all

theorem lt_of {w : World} {b : Nat} {o : Obj} (h : w.heap[b]? = some o) : b < w.heap.size := lt_of_block h

/-- A cell below B stays. -/
theorem cell_kept {B : Nat} {w w' : World} (h : Below B w w') {b o : Nat} {v : Value} (ha : b < B) (hc : w.cell? ⟨b, o, none⟩ = some v) : w'.cell? ⟨b, o, none⟩ = some v := (h.cell (p := ⟨b, o, none⟩) ha).trans hc

/-- Of the old blocks all but those of X are as they were. -/
structure Fr (X : List Nat) (w w' : World) : Prop where
  os : w'.os = w.os
  tape : w'.tape = w.tape
  output : w'.output = w.output
  size : w.heap.size ≤ w'.heap.size
  block : ∀ k, k < w.heap.size → k ∉ X → w'.heap[k]? = w.heap[k]?
theorem Fr.refl (X : List Nat) (w : World) : Fr X w w := ⟨rfl, rfl, rfl, Nat.le_refl _, fun _ _ _ => rfl⟩
theorem Fr.trans {X : List Nat} {a b c : World} (h : Fr X a b) (k : Fr X b c) : Fr X a c :=
  ⟨k.os.trans h.os, k.tape.trans h.tape, k.output.trans h.output, Nat.le_trans h.size k.size, fun i hi hx => (k.block i (Nat.lt_of_lt_of_le hi h.size) hx).trans (h.block i hi hx)⟩
theorem Fr.mono {X Y : List Nat} {a b : World} (h : Fr X a b) (hs : ∀ k, k < a.heap.size → k ∈ X → k ∈ Y) : Fr Y a b :=
  ⟨h.os, h.tape, h.output, h.size, fun i hi hx => h.block i hi fun hm => hx (hs i hi hm)⟩
theorem Fr.below {X : List Nat} {a b : World} {B : Nat} (h : Fr X a b) (hB : B ≤ a.heap.size) (hs : ∀ k, k ∈ X → B ≤ k) : Below B a b :=
  ⟨h.os, h.tape, h.output, h.size, fun i hi => h.block i (by omega) fun hm => by have := hs i hm; omega⟩
theorem Fr.of_below {X : List Nat} {a b : World} (h : Below a.heap.size a b) : Fr X a b := ⟨h.os, h.tape, h.output, h.size, fun i hi _ => h.block i hi⟩
theorem Fr.setCell {X : List Nat} {a w : World} (h : Fr X a w) {b : Nat} (hb : b ∈ X) (o : Nat) (u : Value) : Fr X a (w.setCell ⟨b, o, none⟩ u) :=
  h.trans ⟨rfl, rfl, rfl, by simp, fun k _ hx => set_other _ _ fun e => hx (by rw [e]; exact hb)⟩
theorem Fr.alloc {X : List Nat} {a w : World} (h : Fr X a w) (o : Obj) : Fr X a (w.alloc o) := h.trans (Fr.of_below ((Below.refl _ _).alloc (Nat.le_refl _) _))
theorem Fr.drew {X : List Nat} {a w : World} (h : Fr X a w) : Fr X a w.drew := ⟨h.os, h.tape, h.output, h.size, h.block⟩
theorem Fr.grown {X : List Nat} {a w w' : World} {row : Option Nat} (h : Fr X a w) (hg : w.grownBy w' row) (hr : ∀ k, row = some k → k < a.heap.size → k ∈ X) : Fr X a w' :=
  ⟨hg.os.trans h.os, hg.tape.trans h.tape, hg.output.trans h.output, Nat.le_trans h.size hg.size, fun k hk hx => (hg.block k (Nat.lt_of_lt_of_le hk h.size) fun e => hx (hr k e.symm hk)).trans (h.block k hk hx)⟩

theorem Fr.drewN {X : List Nat} {a w : World} (h : Fr X a w) (n : Nat) : Fr X a (w.drewN n) := ⟨h.os, h.tape, h.output, h.size, h.block⟩

theorem news2 (w : World) (o : Obj) (x : Value) (t : TypeId) : ∀ j u, [x][j]? = some u → ((w.alloc o).alloc (.cells #[x] t)).cell? ((⟨w.heap.size + 1, 0, none⟩ : Addr).add j) = some u := by
  simpa using World.news_of_block (new_at (w.alloc o) (.cells #[x] t))
/-- A block that holds something else is not the row. -/
theorem ownBlock_ne {w : World} {base : Nat} {e : TypeId} {size : Nat} {v : Value} {n : Nat} {xs : List Value} (h : w.ownsRow base e size v n xs) {k : Nat} {o : Obj} (hk : w.heap[k]? = some o) (hne : ∀ cur, o ≠ .cells cur e (0, 0)) : some k ≠ v.ownBlock := by
  intro he
  rcases h.2 with ⟨rfl, _⟩ | ⟨g, cap, cur, rfl, _, hg, _⟩
  · simp [Value.ownBlock] at he
  · simp only [Value.ownBlock, Option.some.injEq] at he
    subst he
    rw [hk] at hg
    exact hne cur (Option.some.inj hg)

theorem own_form {w : World} {B : Nat} {e : TypeId} {size : Nat} {v : Value} {n : Nat} {xs : List Value} (h : w.ownsRow B e size v n xs) : ∃ bp mc, v = .slice bp n mc := by
  rcases h.2 with ⟨rfl, rfl⟩ | ⟨g, cap, cur, rfl, _⟩
  · exact ⟨_, _, rfl⟩
  · exact ⟨_, _, rfl⟩

theorem keptC {B : Nat} {e : TypeId} {size n : Nat} {v : Value} {xs : List Value} {w0 w1 : World} (hown : w0.ownsRow B e size v n xs) (hg : w0.grownBy w1 v.ownBlock) {k : Nat} {o' : Obj} (hk : w0.heap[k]? = some o') (hne : ∀ cur, o' ≠ .cells cur e (0, 0)) : w1.heap[k]? = some o' := by
  rw [hg.block k (lt_of hk) (ownBlock_ne hown hk hne)]
  exact hk
theorem own_kept {B : Nat} {e e' : TypeId} {size n size' n' : Nat} {v v' : Value} {xs xs' : List Value} {w0 w1 : World} (h : w0.ownsRow B e size v n xs) (h' : w0.ownsRow B e' size' v' n' xs') (hne : e ≠ e') (hg : w0.grownBy w1 v'.ownBlock) : w1.ownsRow B e size v n xs := by
  refine ⟨h.1, ?_⟩
  rcases h.2 with h0 | ⟨g, cap, cur, hv, hb, hh, r⟩
  · exact .inl h0
  · exact .inr ⟨g, cap, cur, hv, hb, keptC h' hg hh (by simpa using hne), r⟩
theorem own_set {B : Nat} {e : TypeId} {size n : Nat} {v : Value} {xs : List Value} {w : World} (h : w.ownsRow B e size v n xs) {b : Nat} {o : Obj} (hb : w.heap[b]? = some o) (hne : ∀ cur, o ≠ .cells cur e (0, 0)) (j : Nat) (u : Value) : (w.setCell ⟨b, j, none⟩ u).ownsRow B e size v n xs :=
  ownsRow_setCell_other h (a := ⟨b, j, none⟩) (fun e => ownBlock_ne h hb hne e.symm) u
theorem ne_of_types {w : World} {a b : Nat} {ca cb : Array Value} {ta tb : TypeId} (ha : w.heap[a]? = some (.cells ca ta (0, 0))) (hb : w.heap[b]? = some (.cells cb tb (0, 0))) (h : ta ≠ tb) : a ≠ b := by
  rintro rfl
  rw [ha] at hb
  simp at hb
  exact h hb.2

theorem own_lt {B : Nat} {e : TypeId} {size n : Nat} {v : Value} {xs : List Value} {w : World} (h : w.ownsRow B e size v n xs) : ∀ g, v.ownBlock = some g → B ≤ g ∧ g < w.heap.size := by
  intro g hg
  rcases h.2 with ⟨rfl, _⟩ | ⟨g', cap, cur, rfl, hb, hh, r⟩
  · simp [Value.ownBlock] at hg
  · simp [Value.ownBlock] at hg
    subst hg
    exact ⟨hb, lt_of hh⟩
theorem own_fr {B : Nat} {e : TypeId} {size n : Nat} {v : Value} {xs : List Value} {w w' : World} {X : List Nat} (h : w.ownsRow B e size v n xs) (hf : Fr X w w') (hx : ∀ g, v.ownBlock = some g → g ∉ X) : w'.ownsRow B e size v n xs := by
  refine ⟨h.1, ?_⟩
  rcases h.2 with h0 | ⟨g, cap, cur, hv, hb, hh, r⟩
  · exact .inl h0
  · exact .inr ⟨g, cap, cur, hv, hb, (hf.block g (lt_of hh) (hx g (by rw [hv]; rfl))).trans hh, r⟩
theorem own_type {B : Nat} {e : TypeId} {size n : Nat} {v : Value} {xs : List Value} {w : World} (h : w.ownsRow B e size v n xs) {g : Nat} (hg : v.ownBlock = some g) : ∃ cur, w.heap[g]? = some (.cells cur e (0, 0)) := by
  rcases h.2 with ⟨rfl, _⟩ | ⟨g', cap, cur, rfl, hb, hh, r⟩
  · simp [Value.ownBlock] at hg
  · simp [Value.ownBlock] at hg
    subst hg
    exact ⟨cur, hh⟩

def Stop (p : Prop) : Prop := p
theorem stop {p : Prop} (h : Stop p) : p := h
end Go.Proofs.Qxb6605955a

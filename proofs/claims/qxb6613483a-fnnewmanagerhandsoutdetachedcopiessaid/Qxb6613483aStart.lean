import Derived.Test.Qxb6613483aFill
import Derived.Test.Qxb6613483aBytes
namespace Go.Proofs.Qxb6613483a
open Go.RowKit Go.MuLone Go.Maps
set_option linter.unusedSimpArgs false

theorem slice22 (a : Option Addr) (n c m : Nat) (h : m ≤ c) (w : World) : (Instr.slice 22 (.slice a n c) none (some (.int .i64 (m : Int))) none).run Try.prog w = .ok (.slice a m c) w := by
  have h1 : (m : Int) ≤ (c : Int) := by omega
  have e : (a.map fun x : Addr => x.add 0) = a := by cases a <;> simp [Addr.add]
  simp [Instr.slice, run_underlying Try.underlying22, Instr.sliceBounds, run_sliceBound, h1, Try.sizeOf9, e]

theorem eqlmap29 (b : Nat) (w : World) : (binOp .eql 29 (.map (some b)) (.map none)).run Try.prog w = .ok (.bool false) w := by
  have h1 : ∀ d : Nat, (Op.equalIn (d + 1) 29 (.map (some b)) (.map none)).run Try.prog w = .ok false w := fun d => by
    simp [Op.equalIn, run_underlying Try.underlying29]
  have h2 : (Op.equal 29 (.map (some b)) (.map none)).run Try.prog w = .ok false w := h1 9999
  simp only [binOp]
  simp [h2]

theorem Strs.fr {mb : Nat} {w w' : World} {a : Option Addr} {n : Nat} {S : Nat → ByteArray} (h : Strs w a n S) (hf : Fr [mb] w w') (hm : ∃ es c, w.heap[mb]? = some (.map es c)) : Strs w' a n S := fun i hi => by
  obtain ⟨b, off, e, h1⟩ := h i hi
  exact ⟨b, off, e, cell_fr hf hm h1⟩
theorem Ints.fr {mb : Nat} {w w' : World} {a : Option Addr} {n : Nat} {Z : Nat → Int} (h : Ints w a n Z) (hf : Fr [mb] w w') (hm : ∃ es c, w.heap[mb]? = some (.map es c)) : Ints w' a n Z := fun i hi => by
  obtain ⟨b, off, e, h1⟩ := h i hi
  exact ⟨b, off, e, cell_fr hf hm h1⟩
theorem Ptrs.fr {mb : Nat} {w w' : World} {rb m : Nat} {pb : Nat → Nat} (h : Ptrs w rb m pb) (hf : Fr [mb] w w') (hm : ∃ es c, w.heap[mb]? = some (.map es c)) : Ptrs w' rb m pb := fun i hi => cell_fr hf hm (h i hi)
theorem fr_of_grown {mb : Nat} {w w' : World} (h : w.grownBy w' (some mb)) : Fr [mb] w w' := ⟨h.os, h.tape, h.output, h.size, fun k hk hx => h.block k hk (fun e => hx (by have := Option.some.inj e; simp [this]))⟩

/-- What holds when the manager is made. -/
theorem start {w wA wB : World} {sb mb m n1 n2 : Nat} {a a1 a2 : Option Addr} {S N : Nat → ByteArray} {Z : Nat → Int} {pb : Nat → Nat}
    (hs : wA.heap[sb]? = some (.cells #[.map (some mb)] 50 (0, 0))) (hr : Reads wA mb 0 (fun _ => none)) (hA : Below w.heap.size w wA) (hmb : w.heap.size ≤ mb) (hk : Strs wA a m S) (hz : Ints wA a1 n1 Z) (hn : Strs wA a2 n2 N) (F : Filled wA wB mb m m S N Z pb) :
    All (wB.alloc (.cells (mcells 0 sb) 62)) wB.heap.size sb mb m wA.heap.size m a S a1 n1 Z a2 n2 N pb none 0 (fun _ => { data := #[] }) ∧ (∀ i, i < m → Cnt2 (wB.alloc (.cells (mcells 0 sb) 62)) (pb i) mb (Z i) (N i)) ∧ Below w.heap.size w (wB.alloc (.cells (mcells 0 sb) 62)) := by
  have hm := hr.block
  have hne : sb ≠ mb := by
    obtain ⟨es, c, hm⟩ := hm
    rintro rfl
    rw [hs] at hm
    simp at hm
  have bl := below_alloc wB (.cells (mcells 0 sb) 62)
  have hsB : wB.heap[sb]? = _ := (F.fr.block sb (lt_of hs) (by simpa using hne)).trans hs
  have c2 : ∀ i, i < m → Cnt2 (wB.alloc (.cells (mcells 0 sb) 62)) (pb i) mb (Z i) (N i) := fun i hi => (F.cnt i hi).later bl
  have hp : Ptrs wB wA.heap.size m pb := by
    obtain ⟨cs, h1, h2, h3⟩ := F.row
    exact fun i hi => (cell_of h3 i).trans (h2 i hi)
  refine ⟨⟨⟨new_at _ _, kept bl hsB, (F.reads.congr (fun s => ?_)).later bl⟩, fun i hi => (c2 i hi).cnt, hp.later bl, (hk.fr F.fr hm).later bl, (hz.fr F.fr hm).later bl, (hn.fr F.fr hm).later bl, fun i hi => absurd hi (Nat.not_lt_zero _)⟩, c2, ?_⟩
  · simp [keptM, lastIdx]
  · exact (hA.trans (F.fr.below hA.size (fun k hk => by simp at hk; omega))).trans (bl.mono (Nat.le_trans hA.size F.fr.size))

/-- A key struck out of the map. -/
theorem All.dropped {w w' : World} {gb sb mb mx rb m : Nat} {a : Option Addr} {S : Nat → ByteArray} {a1 : Option Addr} {n1 : Nat} {Z : Nat → Int} {a2 : Option Addr} {n2 : Nat} {N : Nat → ByteArray} {pb : Nat → Nat} {T0 : Nat → ByteArray} {db : Nat} {d : ByteArray}
    (h : All w gb sb mb mx rb m a S a1 n1 Z a2 n2 N pb none 0 T0) (h2 : ∀ i, i < m → Cnt2 w (pb i) mb (Z i) (N i)) (hd : w.cell? ⟨db, 0, none⟩ = some (.string d))
    (hr : Reads w' mb mx (fun t => if t = d.data.toList then none else keptM S m pb T0 0 t)) (hg : w.grownBy w' (some mb)) :
    All w' gb sb mb mx rb m a S a1 n1 Z a2 n2 N pb (some ⟨db, 0, none⟩) 1 (fun _ => d) := by
  have hm := h.mgr.reads.block
  have hf := fr_of_grown hg
  obtain ⟨es, c, hm0⟩ := h.mgr.reads.block
  have n1 : gb ≠ mb := by rintro rfl; have := h.mgr.mgr; rw [hm0] at this; simp at this
  have n2 : sb ≠ mb := by rintro rfl; have := h.mgr.store; rw [hm0] at this; simp at this
  refine ⟨⟨(hf.block gb (lt_of h.mgr.mgr) (by simpa using n1)).trans h.mgr.mgr, (hf.block sb (lt_of h.mgr.store) (by simpa using n2)).trans h.mgr.store, hr.congr (fun s => ?_)⟩, fun i hi => ((h2 i hi).turn hm hg).cnt, h.ptr.fr hf hm, h.keys.fr hf hm, h.ints.fr hf hm, h.nodes.fr hf hm, fun i hi => ⟨db, 0, rfl, ?_⟩⟩
  · by_cases e : d.data.toList = s
    · simp [keptM, lastIdx, e]
    · simp [keptM, lastIdx, e, Ne.symm e]
  · obtain rfl : i = 0 := by omega
    exact cell_fr hf hm hd
end Go.Proofs.Qxb6613483a

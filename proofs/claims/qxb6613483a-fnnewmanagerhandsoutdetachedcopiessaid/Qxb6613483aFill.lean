import Derived.Test.Qxb6613483aManaged
namespace Go.Proofs.Qxb6613483a
open Go.RowKit Go.MuLone Go.Maps
set_option linter.unusedSimpArgs false

theorem Try.info39 : (Try.prog.info? 39).map (fun i => (i.zero, i.size, i.bytes)) = some (some (.pointer none), 1, 8) := by kernel_rfl
theorem make31 (n : Nat) (hn : n ≤ 4096) (w : World) : (Instr.makeSlice 31 (.int .i64 (n : Int)) (.int .i64 (n : Int))).run Try.prog w = .ok (.slice (some ⟨w.heap.size, 0, none⟩) n n) (w.alloc (.cells (madeCells #[.pointer none] n) 39)) := by
  obtain ⟨i, hi, hz, h1, h2⟩ := info_parts Try.info39
  have := run_make (P := Try.prog) w 31 39 i _ Try.underlying31 hi hz .i64 .i64 n n (by omega) (by omega) (by rw [h2]; omega) (by omega)
  rw [h1] at this
  simpa [Value.cells] using this

/-- 'm[k] = p' at the operation. -/
theorem wpList_reads (w : World) {ops : Array Oper} {rest : List Oper} {o : Oper} {a : Act} {Q : Exit → Act → World → Prop}
    (hg : o.guard = none) (m x v : Operand) (hop : o.op = Op.mapUpdate 29 m x v) (mb n : Nat) (M : List UInt8 → Option Nat) (s : ByteArray) (b : Nat)
    (hm : a.eval m = .map (some mb)) (hx : a.eval x = .string s) (hv : a.eval v = .pointer (some ⟨b, 0, none⟩)) (hn : n < maxLen) (hs : s.size ≤ maxLen) (hr : Reads w mb n M)
    (hK : ∀ w', Reads w' mb (n + 1) (fun t => if t = s.data.toList then some b else M t) → w.grownBy w' (some mb) → wpList Try.prog ops Q rest (a.put o.dst undef) w') :
    wpList Try.prog ops Q (o :: rest) a w := by
  refine wpList_plain hg fun K' hK' => ?_
  obtain ⟨w', hrun, r1, r2⟩ := hr.store hn hs b
  unfold Oper.wp
  simp [execOp, hop, hm, hx, hv, hrun, Result.andThen]
  exact hK' _ _ (hK w' r1 r2)

/-- The map behind j rounds. -/
theorem Reads.congr {w : World} {mb n : Nat} {M M' : List UInt8 → Option Nat} (h : Reads w mb n M) (e : ∀ s, M s = M' s) : Reads w mb n M' := by
  obtain rfl : M = M' := funext e
  exact h
def upd (pb : Nat → Nat) (j b : Nat) : Nat → Nat := fun i => if i = j then b else pb i
theorem upd_map (S : Nat → ByteArray) (s : List UInt8) (pb : Nat → Nat) (b j : Nat) : ∀ k, k ≤ j → (lastIdx S s k).map (upd pb j b) = (lastIdx S s k).map pb
  | 0, _ => rfl
  | k + 1, h => by
    unfold lastIdx
    split
    · simp [upd]; omega
    · exact upd_map S s pb b j k (by omega)

/-- A count whose set is not the map mb. -/
structure Cnt2 (w : World) (pb mb : Nat) (z : Int) (s : ByteArray) : Prop where
  mk' ::
  out : ∃ nb, w.heap[pb]? = some (.cells #[.int .i64 z, .map (some nb)] 47 (0, 0)) ∧ Node w nb s.data.toList ∧ nb ≠ mb
theorem Cnt2.cnt {w : World} {pb mb : Nat} {z : Int} {s : ByteArray} (h : Cnt2 w pb mb z s) : Cnt w pb z s := by
  obtain ⟨nb, h1, h2, _⟩ := h.out
  exact ⟨nb, h1, h2⟩
theorem Cnt2.later {w w' : World} {pb mb : Nat} {z : Int} {s : ByteArray} (h : Cnt2 w pb mb z s) (hb : Below w.heap.size w w') : Cnt2 w' pb mb z s := by
  obtain ⟨nb, h1, h2, h3⟩ := h.out
  exact ⟨nb, kept hb h1, h2.later hb, h3⟩
theorem Cnt2.turn {w w' : World} {pb mb : Nat} {z : Int} {s : ByteArray} (h : Cnt2 w pb mb z s) (hm : ∃ es c, w.heap[mb]? = some (.map es c)) (hg : w.grownBy w' (some mb)) : Cnt2 w' pb mb z s := by
  obtain ⟨nb, h1, h2, h3⟩ := h.out
  obtain ⟨es, c, hm⟩ := hm
  have e : pb ≠ mb := by
    rintro rfl
    rw [hm] at h1
    simp at h1
  exact ⟨nb, (hg.block pb (lt_of h1) (by simpa using e)).trans h1, h2.grown hg (by simpa using h3), h3⟩
theorem Cnt2.other {w w' : World} {pb mb r : Nat} {z : Int} {s : ByteArray} {cs : Array Value} {t : TypeId} (h : Cnt2 w pb mb z s) (hr : w.heap[r]? = some (.cells cs t (0, 0))) (ht : t ≠ 47) (hg : w.grownBy w' (some r)) : Cnt2 w' pb mb z s := by
  obtain ⟨nb, h1, h2, h3⟩ := h.out
  have e : pb ≠ r := by
    rintro rfl
    rw [hr] at h1
    simp at h1
    exact ht h1.2
  have e2 : nb ≠ r := by
    obtain ⟨es, c, hb⟩ := h2.block
    rintro rfl
    rw [hr] at hb
    simp at hb
  exact ⟨nb, (hg.block pb (lt_of h1) (by simpa using e)).trans h1, h2.grown hg (by simpa using e2), h3⟩

/-- zzFill under way. -/
structure Filled (w wr : World) (mb m j : Nat) (S N : Nat → ByteArray) (Z : Nat → Int) (pb : Nat → Nat) : Prop where
  row : ∃ cs : Array Value, cs.size = m ∧ (∀ i, i < j → cs[i]? = some (.pointer (some ⟨pb i, 0, none⟩))) ∧ wr.heap[w.heap.size]? = some (.cells cs 39 (0, 0))
  reads : Reads wr mb j (fun s => (lastIdx S s j).map pb)
  cnt : ∀ i, i < j → Cnt2 wr (pb i) mb (Z i) (N i)
  fr : Fr [mb] w wr

theorem Fr.setNew {X : List Nat} {a w : World} (h : Fr X a w) {b : Nat} (hb : a.heap.size ≤ b) (o : Nat) (u : Value) : Fr X a (w.setCell ⟨b, o, none⟩ u) :=
  ⟨h.os, h.tape, h.output, by simpa using h.size, fun k hk hx => (set_other _ _ (by omega)).trans (h.block k hk hx)⟩
theorem cell_fr {mb : Nat} {w w' : World} (h : Fr [mb] w w') (hm : ∃ es c, w.heap[mb]? = some (.map es c)) {b o : Nat} {v : Value} (hc : w.cell? ⟨b, o, none⟩ = some v) : w'.cell? ⟨b, o, none⟩ = some v := by
  obtain ⟨es, c, hm⟩ := hm
  have hlt : b < w.heap.size := World.block_lt_of_cell? _ _ hc
  have hne : b ≠ mb := by
    rintro rfl
    simp [World.cell?, hm] at hc
  have hb := h.block b hlt (by simpa using hne)
  unfold World.cell? at hc ⊢
  simp only [hb]
  exact hc

theorem set_grown (w : World) (b o : Nat) (v : Value) : w.grownBy (w.setCell ⟨b, o, none⟩ v) (some b) := ⟨rfl, rfl, rfl, by simp, fun i _ hi => set_other _ _ (fun e => hi (by rw [e]))⟩
theorem upd_last (S : Nat → ByteArray) (s : List UInt8) (pb : Nat → Nat) (b k : Nat) : (if s = (S k).data.toList then some b else (lastIdx S s k).map pb) = (lastIdx S s (k + 1)).map (upd pb k b) := by
  rw [show lastIdx S s (k + 1) = if (S k).data.toList = s then some k else lastIdx S s k from rfl]
  by_cases e : (S k).data.toList = s
  · rw [if_pos e.symm, if_pos e]
    simp [upd]
  · rw [if_neg (fun h => e h.symm), if_neg e]
    exact (upd_map S s pb b k k (Nat.le_refl _)).symm

set_option maxRecDepth 100000 in
set_option maxHeartbeats 1600000 in
/-- zzFill. -/
theorem fill15 (mb m n1 n2 : Nat) (a a1 a2 : Option Addr) (c c1 c2 : Nat) (S N : Nat → ByteArray) (Z : Nat → Int) (w : World) (hr : Reads w mb 0 (fun _ => none)) (hk : Strs w a m S) (hz : Ints w a1 n1 Z) (hn : Strs w a2 n2 N)
    (hm : m ≤ 4096) (h1 : m ≤ n1) (h2 : m ≤ n2) (sS : ∀ i, i < m → (S i).size ≤ maxLen) (sN : ∀ i, i < n2 → (N i).size ≤ maxLen) :
    Calls Try.prog 15 #[.map (some mb), .slice a m c, .slice a1 n1 c1, .slice a2 n2 c2] w fun e w' => e = .returned (.slice (some ⟨w.heap.size, 0, none⟩) m m) ∧ ∃ pb, Filled w w' mb m m S N Z pb := by
  have HM := hr.block
  have HR := hide hr; have HK := hide hk; have HZ := hide hz; have HN := hide hn; have SS := hide sS; have SN := hide sN
  have H1 := hide h1; have H2 := hide h2
  have hmk := make31 m hm w
  have hm' : (m : Int) ≤ 4096 := by omega
  clear hr hk hz hn hm sS sN h1 h2
  go_enter Try.func15, Try.ntmps15
  go_wp2
  clear hmk
  go_loopw [10] (fun i wr => ∃ (k : Nat) (pb : Nat → Nat), k ≤ m ∧ i = .int .i64 k ∧ Filled w wr mb m k S N Z pb) (fun i _ => m - (intOf i).toNat)
  case atStart =>
    refine ⟨0, fun _ => 0, Nat.zero_le _, rfl, ⟨_, by simp [madeCells], fun i hi => by omega, new_at _ _⟩, (HR.out.later (below_alloc _ _)).congr (fun s => rfl), fun i hi => by omega, (Fr.refl _ _).alloc _⟩
  case round =>
    obtain ⟨k, pb, hk, rfl, F⟩ := hrel
    have HF := hide F; clear F
    by_cases hlt : k < m
    · obtain ⟨cs, hcs, hj, hrow⟩ := HF.out.row
      have HJ := hide hj; clear hj
      have hsz := HF.out.fr.size
      have hrl : w.heap.size < wr.heap.size := lt_of hrow
      obtain ⟨bk, ok, rfl, dk⟩ := HK.out k hlt
      obtain ⟨bz, oz, rfl, dz⟩ := HZ.out k (by have := H1.out; omega)
      obtain ⟨bn, on, rfl, dn⟩ := HN.out k (by have := H2.out; omega)
      have fr1 : Fr [mb] w (wr.alloc (.map #[] 0)) := HF.out.fr.alloc _
      obtain ⟨w2, hu, hn2, hg2⟩ := Node.made (new_at wr (.map #[] 0)) (SN.out k (by have := H2.out; omega))
      have fr2 : Fr [mb] w w2 := fr1.grown hg2 (fun i e hi => by cases e; omega)
      have x1 := cell_fr fr1 HM dn
      have x2 := cell_fr fr2 HM dz
      have fr3 : Fr [mb] w (w2.alloc (.cells #[.int .i64 (Z k), .map (some wr.heap.size)] 47)) := fr2.alloc _
      have fr4 : Fr [mb] w ((w2.alloc (.cells #[.int .i64 (Z k), .map (some wr.heap.size)] 47)).setCell ⟨w.heap.size, k, none⟩ (.pointer (some ⟨w2.heap.size, 0, none⟩))) := fr3.setNew (Nat.le_refl _) _ _
      have x4 := cell_fr fr4 HM dk
      have r1 : (wr.alloc (.map #[] 0)).heap[w.heap.size]? = some (.cells cs 39 (0, 0)) := (old_at _ hrl).trans hrow
      have r2 : w2.heap[w.heap.size]? = some (.cells cs 39 (0, 0)) := (hg2.block _ (lt_of r1) (by simp; omega)).trans r1
      have r3 : (w2.alloc (.cells #[.int .i64 (Z k), .map (some wr.heap.size)] 47)).heap[w.heap.size]? = some (.cells cs 39 (0, 0)) := (old_at _ (lt_of r2)).trans r2
      have y3 : (w2.alloc (.cells #[.int .i64 (Z k), .map (some wr.heap.size)] 47)).cell? ⟨w.heap.size, k, none⟩ = some cs[k] := (cell_of r3 k).trans (by simp)
      have z3 := free_of r3 k
      have i0 : (0 : Int) ≤ (k : Int) := by omega
      have i1 : (k : Int) < (m : Int) := by omega
      have i2 : (k : Int) < (n1 : Int) := by have := H1.out; omega
      have i3 : (k : Int) < (n2 : Int) := by have := H2.out; omega
      have hmk := make45 1 wr
      have hml : mb < w.heap.size := HR.out.lt
      have m1 : Reads (wr.alloc (.map #[] 0)) mb k (fun s => (lastIdx S s k).map pb) := HF.out.reads.later (below_alloc _ _)
      have m2 := m1.grown hg2 (by simp; omega)
      have m3 := m2.later (below_alloc _ (.cells #[.int .i64 (Z k), .map (some wr.heap.size)] 47))
      have m4 := m3.grown (set_grown (w2.alloc (.cells #[.int .i64 (Z k), .map (some wr.heap.size)] 47)) w.heap.size k (.pointer (some ⟨w2.heap.size, 0, none⟩))) (by simp; omega)
      obtain ⟨w5, hu5, m5, g5⟩ := m4.store (by unfold maxLen; omega) (SS.out k hlt) w2.heap.size
      have fr5 : Fr [mb] w w5 := fr4.grown g5 (fun i e hi => by cases e; simp)
      have F5 : Filled w w5 mb m (k + 1) S N Z (upd pb k w2.heap.size) := by
        have e2 : w2.heap.size ≠ w.heap.size := by have := lt_of r2; omega
        have r4 := set_same r3 k (.pointer (some ⟨w2.heap.size, 0, none⟩))
        have r5 : w5.heap[w.heap.size]? = _ := (g5.block _ (lt_of r4) (by simp; omega)).trans r4
        refine ⟨⟨_, by simpa using hcs, fun i hi => ?_, r5⟩, m5.congr (fun s => ?_), fun i hi => ?_, fr5⟩
        · by_cases e : i = k
          · subst e
            simp [upd, hcs, hlt]
          · have := HJ.out i (by omega)
            simp [upd, e, Array.getElem?_setIfInBounds, Ne.symm e, this]
        · rw [upd_last]
        · have b2 : Below wr.heap.size wr w2 := ((Below.refl _ _).alloc (Nat.le_refl _) _).grown hg2 (by simp) (fun j hj => by cases hj; exact Nat.le_refl _)
          have c3 : Cnt2 (w2.alloc (.cells #[.int .i64 (Z k), .map (some wr.heap.size)] 47)) (upd pb k w2.heap.size i) mb (Z i) (N i) := by
            by_cases e : i = k
            · subst e
              simp only [upd, if_true]
              exact ⟨_, new_at _ _, hn2.later (below_alloc _ _), by omega⟩
            · simp only [upd, if_neg e]
              exact ((HF.out.cnt i (by omega)).later b2).later (below_alloc _ _)
          exact (c3.other r3 (by decide) (set_grown _ _ _ _)).turn m4.block g5
      have F5' := hide F5
      clear fr1 fr2 fr3 fr4 r1 r2 r3 hn2 hg2 hrow dk dz dn m1 m2 m3 m4 m5 g5 fr5 F5
      go_wp2
      go_roundw
      case rel => exact ⟨k + 1, _, by omega, by go_num, F5'.out⟩
      case measure => simp [intOf]; omega
    · obtain rfl : m = k := by omega
      go_wp2
      go_ret
      exact ⟨rfl, pb, HF.out⟩
end Go.Proofs.Qxb6613483a

import Derived.Test.Qxb6605831aClone
namespace Go.Proofs.Qxb6605831a
open Go.RowKit

structure Stamp where
  spi : Int
  lsn : Int
  frame : Int
  typ : Int
  len : Nat
  bytes : Nat → Int

/-- A stamp's five cells. -/
def StampCells (w : World) (b o : Nat) (s : Stamp) (p : Option Addr) (c : Nat) : Prop :=
  w.cell? ⟨b, o, none⟩ = some (.int .u32 s.spi) ∧ w.cell? ⟨b, o + 1, none⟩ = some (.int .u8 s.lsn) ∧ w.cell? ⟨b, o + 2, none⟩ = some (.int .i64 s.frame) ∧
  w.cell? ⟨b, o + 3, none⟩ = some (.int .u8 s.typ) ∧ w.cell? ⟨b, o + 4, none⟩ = some (.slice p s.len c)

/-- The stamps that a slice of stamps holds. -/
def Stamps (w : World) (a : Option Addr) (n : Nat) (S : Nat → Stamp) : Prop :=
  (a = none → n = 0) ∧ ∀ i, i < n → ∃ b off p c, a = some ⟨b, off, none⟩ ∧ StampCells w b (off + i * 5) (S i) p c ∧ Bytes w p (S i).len (S i).bytes

theorem Stamps.lens {w : World} {a : Option Addr} {n : Nat} {S : Nat → Stamp} (h : Stamps w a n S) (hl : ∀ i, i < n → (S i).len ≤ maxLen) : Lens w a n (fun i => (S i).len) := fun i hi => by
  obtain ⟨b, off, p, c, e, hc, _⟩ := h.2 i hi
  exact ⟨b, off, p, c, e, hc.2.2.2.2, hl i hi⟩

theorem Try.info43 : (Try.prog.info? 43).map (fun i => (i.zero, i.size, i.bytes)) = some (some (.agg #[.int .u32 0, .int .u8 0, .int .i64 0, .int .u8 0, .slice none 0 0]), 5, 48) := by kernel_rfl
theorem make22 (n : Nat) (hn : n ≤ 1048576) (w : World) : (Instr.makeSlice 22 (.int .i64 (n : Int)) (.int .i64 (n : Int))).run Try.prog w = .ok (.slice (some ⟨w.heap.size, 0, none⟩) n n) (w.alloc (.cells (madeCells #[.int .u32 0, .int .u8 0, .int .i64 0, .int .u8 0, .slice none 0 0] (n * 5)) 43)) := by
  obtain ⟨i, hi, hz, h1, h2⟩ := info_parts Try.info43
  have := run_make (P := Try.prog) w 22 43 i _ Try.underlying22 hi hz .i64 .i64 n n (by omega) (by omega) (by rw [h2]; omega) (by omega)
  rw [h1] at this
  simpa [Value.cells] using this

/-- A stamp's five cells, in an array. -/
def StampArr (cs : Array Value) (o : Nat) (s : Stamp) (p : Option Addr) (c : Nat) : Prop :=
  cs[o]? = some (.int .u32 s.spi) ∧ cs[o + 1]? = some (.int .u8 s.lsn) ∧ cs[o + 2]? = some (.int .i64 s.frame) ∧ cs[o + 3]? = some (.int .u8 s.typ) ∧ cs[o + 4]? = some (.slice p s.len c)
theorem StampArr.set {cs : Array Value} {o : Nat} {s : Stamp} {p : Option Addr} {c : Nat} (h : StampArr cs o s p c) (j : Nat) (v : Value) (hj : j < o ∨ o + 5 ≤ j) : StampArr (cs.setIfInBounds j v) o s p c := by
  obtain ⟨h0, h1, h2, h3, h4⟩ := h
  refine ⟨?_, ?_, ?_, ?_, ?_⟩ <;> (rw [Array.getElem?_setIfInBounds_ne (by omega)]; assumption)
theorem StampArr.cells {w : World} {b o : Nat} {cs : Array Value} {t : TypeId} {f : Nat × Nat} {s : Stamp} {p : Option Addr} {c : Nat} (h : StampArr cs o s p c) (hb : w.heap[b]? = some (.cells cs t f)) : StampCells w b o s p c := by
  obtain ⟨h0, h1, h2, h3, h4⟩ := h
  exact ⟨by rw [cell_of hb]; exact h0, by rw [cell_of hb]; exact h1, by rw [cell_of hb]; exact h2, by rw [cell_of hb]; exact h3, by rw [cell_of hb]; exact h4⟩
def laid (cs : Array Value) (o : Nat) (s : Stamp) (p : Option Addr) (c : Nat) : Array Value :=
  ((((cs.setIfInBounds o (.int .u32 s.spi)).setIfInBounds (o + 1) (.int .u8 s.lsn)).setIfInBounds (o + 2) (.int .i64 s.frame)).setIfInBounds (o + 3) (.int .u8 s.typ)).setIfInBounds (o + 4) (.slice p s.len c)
theorem laid_size (cs : Array Value) (o : Nat) (s : Stamp) (p : Option Addr) (c : Nat) : (laid cs o s p c).size = cs.size := by simp [laid]
theorem laid_other {cs : Array Value} {o o' : Nat} {s s' : Stamp} {p p' : Option Addr} {c c' : Nat} (h : StampArr cs o' s' p' c') (hj : o + 5 ≤ o' ∨ o' + 5 ≤ o) : StampArr (laid cs o s p c) o' s' p' c' :=
  ((((h.set _ _ (by omega)).set _ _ (by omega)).set _ _ (by omega)).set _ _ (by omega)).set _ _ (by omega)
theorem laid_here (cs : Array Value) (o : Nat) (s : Stamp) (p q : Option Addr) (c d : Nat) (h : o + 5 ≤ cs.size) : StampArr ((laid cs o s p c).setIfInBounds (o + 4) (.slice q s.len d)) o s q d := by
  refine ⟨?_, ?_, ?_, ?_, ?_⟩ <;> simp [laid, Array.getElem?_setIfInBounds] <;> omega

/-- What the loop has copied so far: the first k stamps. -/
def Copied (cb : Nat) (wr : World) (cs : Array Value) (S : Nat → Stamp) (k : Nat) : Prop :=
  ∀ i, i < k → ∃ p c, StampArr cs (i * 5) (S i) p c ∧ Bytes wr p (S i).len (S i).bytes ∧ ∀ a, p = some a → cb < a.block ∧ a.block < wr.heap.size

theorem copied_step {cb : Nat} {wr wx w2 : World} {cs : Array Value} {S : Nat → Stamp} {k pc m : Nat} {p q : Option Addr} (hj : Copied cb wr cs S k) (hq : Bytes w2 q (S k).len (S k).bytes) (hb2 : Below wx.heap.size wx w2)
    (hqb : ∀ a, q = some a → wx.heap.size ≤ a.block ∧ a.block < w2.heap.size) (hc : cb < wx.heap.size) (xo : ∀ j, j ≠ cb → wx.heap[j]? = wr.heap[j]?) (xs : wx.heap.size = wr.heap.size) (hs : k * 5 + 5 ≤ cs.size) :
    Copied cb (w2.setCell ⟨cb, k * 5 + 4, none⟩ (.slice q (S k).len m)) ((laid cs (k * 5) (S k) p pc).setIfInBounds (k * 5 + 4) (.slice q (S k).len m)) S (k + 1) := by
  have hsz : (w2.setCell ⟨cb, k * 5 + 4, none⟩ (.slice q (S k).len m)).heap.size = w2.heap.size := by simp
  intro i hi
  by_cases e : i = k
  · subst e
    refine ⟨q, m, laid_here _ _ _ _ _ _ _ hs, hq.same fun a ha => ?_, fun a ha => ?_⟩
    · have := (hqb a ha).1
      exact set_other _ _ (by omega)
    · have := hqb a ha
      rw [hsz]; omega
  · obtain ⟨p', c', h1, h2, h3⟩ := hj i (by omega)
    refine ⟨p', c', (laid_other h1 (by omega)).set _ _ (by omega), h2.same fun a ha => ?_, fun a ha => ?_⟩
    · have := h3 a ha
      rw [set_other _ _ (by omega), hb2.block _ (by omega), xo _ (by omega)]
    · have := h3 a ha
      have := hb2.size
      rw [hsz]; omega

set_option maxRecDepth 100000 in
set_option maxHeartbeats 400000 in
theorem clone9_some (a : Addr) (n c : Nat) (S : Nat → Stamp) (w : World) (hn : n ≤ 1048576) (hl : ∀ i, i < n → (S i).len ≤ 1048576) (h : Stamps w (some a) n S) :
    Calls Try.prog 9 #[.slice (some a) n c] w fun e w' => e = .returned (.slice (some ⟨w.heap.size, 0, none⟩) n n) ∧ Stamps w' (some ⟨w.heap.size, 0, none⟩) n S ∧ Below w.heap.size w w' := by
  have H : Hid (Stamps w (some a) n S) := h; clear h
  have HL : Hid (∀ i, i < n → (S i).len ≤ 1048576) := hl; clear hl
  have hm := make22 n hn
  have q22 : ∀ (w : World) (a : Addr) (n c : Nat), (binOp .eql 22 (.slice (some a) n c) (.slice none 0 0)).run Try.prog w = .ok (.bool false) w := fun w a n c => Lib.run_eql_slice_nil w _ _ (some a) n c 0 0 Try.underlying22
  go_enter Try.func9, Try.ntmps9
  go_wp2
  clear hm q22
  go_loopw [12] (fun i wr => ∃ (k : Nat) (cs : Array Value), k ≤ n ∧ i = .int .i64 k ∧ wr.heap[w.heap.size]? = some (.cells cs 43 (0, 0)) ∧ cs.size = n * 5 ∧ Below w.heap.size w wr ∧
      Copied w.heap.size wr cs S k) (fun i _ => n - (intOf i).toNat)
  case atStart => exact ⟨0, _, Nat.zero_le _, rfl, new_at w _, by simp [madeCells], (Below.refl _ _).alloc (Nat.le_refl _) _, by intro i hi; omega⟩
  case round =>
    obtain ⟨k, cs, hk, rfl, hcb, hs, hbel, hj⟩ := hrel
    have HCB := hide hcb; clear hcb
    by_cases hlt : k < n
    · obtain ⟨b, off, p, pc, e, ⟨c0, c1, c2, c3, c4⟩, hby⟩ := H.out.2 k hlt
      simp only [Option.some.injEq] at e; subst e
      have hb : b < w.heap.size := World.block_lt_of_cell? _ _ c0
      replace c0 := cell_kept hbel hb c0
      replace c1 := cell_kept hbel hb c1
      replace c2 := cell_kept hbel hb c2
      replace c3 := cell_kept hbel hb c3
      replace c4 := cell_kept hbel hb c4
      have hne : b ≠ w.heap.size := Nat.ne_of_lt hb
      have d0 : wr.cell? ⟨w.heap.size, k * 5, none⟩ = some (cs[k * 5]'(by omega)) := by rw [cell_of HCB.out]; simp
      have d1 : wr.cell? ⟨w.heap.size, k * 5 + 1, none⟩ = some (cs[k * 5 + 1]'(by omega)) := by rw [cell_of HCB.out]; simp
      have d2 : wr.cell? ⟨w.heap.size, k * 5 + 2, none⟩ = some (cs[k * 5 + 2]'(by omega)) := by rw [cell_of HCB.out]; simp
      have d3 : wr.cell? ⟨w.heap.size, k * 5 + 3, none⟩ = some (cs[k * 5 + 3]'(by omega)) := by rw [cell_of HCB.out]; simp
      have d4 : wr.cell? ⟨w.heap.size, k * 5 + 4, none⟩ = some (cs[k * 5 + 4]'(by omega)) := by rw [cell_of HCB.out]; simp
      have f := free_of HCB.out
      go_wp2_with fail
      -- the world at the call: the five cells are laid
      generalize hwx : ((((wr.setCell ⟨w.heap.size, k * 5, none⟩ (.int .u32 (S k).spi)).setCell ⟨w.heap.size, k * 5 + 1, none⟩ (.int .u8 (S k).lsn)).setCell ⟨w.heap.size, k * 5 + 2, none⟩ (.int .i64 (S k).frame)).setCell ⟨w.heap.size, k * 5 + 3, none⟩ (.int .u8 (S k).typ)).setCell ⟨w.heap.size, k * 5 + 4, none⟩ (.slice p (S k).len pc) = wx
      have xb : wx.heap[w.heap.size]? = some (.cells (laid cs (k * 5) (S k) p pc) 43 (0, 0)) := by rw [← hwx]; exact set_same (set_same (set_same (set_same (set_same HCB.out _ _) _ _) _ _) _ _) _ _
      have xo : ∀ j, j ≠ w.heap.size → wx.heap[j]? = wr.heap[j]? := by intro j hj; rw [← hwx]; rw [set_other _ _ hj, set_other _ _ hj, set_other _ _ hj, set_other _ _ hj, set_other _ _ hj]
      have xs : wx.heap.size = wr.heap.size := by rw [← hwx]; simp
      have xbel : Below w.heap.size w wx := by rw [← hwx]; exact ((((hbel.setCell (Nat.le_refl _) _).setCell (Nat.le_refl _) _).setCell (Nat.le_refl _) _).setCell (Nat.le_refl _) _).setCell (Nat.le_refl _) _
      clear hwx d0 d1 d2 d3 d4 f c0 c1 c2 c3 c4
      have XB := hide xb; have XO := hide xo; have XS := hide xs; clear xb xo xs
      have hxsz : w.heap.size < wx.heap.size := lt_of XB.out
      refine (clone27 p (S k).len pc (S k).bytes wx (HL.out k hlt) (hby.later xbel)).mono ?_
      rintro e w2 ⟨q, m, rfl, hq, hb2, hqb, _⟩
      have yb : w2.heap[w.heap.size]? = some (.cells (laid cs (k * 5) (S k) p pc) 43 (0, 0)) := (hb2.block _ hxsz).trans XB.out
      have y4 : w2.cell? ⟨w.heap.size, k * 5 + 4, none⟩ = some ((laid cs (k * 5) (S k) p pc)[k * 5 + 4]'(by rw [laid_size]; omega)) := by rw [cell_of yb]; simp
      have f := free_of yb
      have YB := hide yb; clear yb
      go_wp2
      go_roundw
      case rel =>
        refine ⟨k + 1, _, by omega, by go_num, set_same YB.out _ _, by simp [laid_size, hs], (xbel.trans (hb2.mono (Nat.le_of_lt hxsz))).setCell (Nat.le_refl _) _, ?_⟩
        exact copied_step hj hq hb2 hqb hxsz XO.out XS.out (by omega)
      case measure => simp [intOf]; omega
    · obtain rfl : k = n := by omega
      go_wp2
      go_ret
      refine ⟨rfl, ⟨(fun h => nomatch h), fun i hi => ?_⟩, hbel⟩
      obtain ⟨p, c, h1, h2, _⟩ := hj i hi
      exact ⟨w.heap.size, 0, p, c, rfl, by rw [Nat.zero_add]; exact h1.cells HCB.out, h2⟩

theorem clone9_none (c : Nat) (w : World) : Calls Try.prog 9 #[.slice none 0 c] w fun e w' => e = .returned (.slice none 0 0) ∧ w' = w := by
  have q22 : ∀ (w : World) (n c : Nat), (binOp .eql 22 (.slice none n c) (.slice none 0 0)).run Try.prog w = .ok (.bool true) w := fun w n c => Lib.run_eql_slice_nil w _ _ none n c 0 0 Try.underlying22
  go_enter Try.func9, Try.ntmps9
  go_wp2
  go_ret
  exact ⟨rfl, rfl⟩

/-- zzCloneStamps: the same stamps, in memory of its own (nil: nil). -/
theorem clone9 (a : Option Addr) (n c : Nat) (S : Nat → Stamp) (w : World) (hn : n ≤ 1048576) (hl : ∀ i, i < n → (S i).len ≤ 1048576) (h : Stamps w a n S) :
    Calls Try.prog 9 #[.slice a n c] w fun e w' => ∃ q m, e = .returned (.slice q n m) ∧ Stamps w' q n S ∧ Below w.heap.size w w' := by
  cases a with
  | none =>
    obtain rfl := h.1 rfl
    refine (clone9_none c w).mono ?_
    rintro e w' ⟨rfl, rfl⟩
    exact ⟨none, 0, rfl, h, Below.refl _ _⟩
  | some a =>
    refine (clone9_some a n c S w hn hl h).mono ?_
    rintro e w' ⟨rfl, h1, h2⟩
    exact ⟨_, _, rfl, h1, h2⟩

theorem Stamps.later {w w' : World} {a : Option Addr} {n : Nat} {S : Nat → Stamp} (h : Stamps w a n S) (hb : Below w.heap.size w w') : Stamps w' a n S :=
  ⟨h.1, fun i hi => by
    obtain ⟨b, off, p, c, e, ⟨c0, c1, c2, c3, c4⟩, hby⟩ := h.2 i hi
    have hlt : b < w.heap.size := World.block_lt_of_cell? _ _ c0
    exact ⟨b, off, p, c, e, ⟨cell_kept hb hlt c0, cell_kept hb hlt c1, cell_kept hb hlt c2, cell_kept hb hlt c3, cell_kept hb hlt c4⟩, hby.later hb⟩⟩
end Go.Proofs.Qxb6605831a

import Derived.Test.Qxb6605955aSub
import Derived.Test.Qxb6605955aReads
import Derived.Deep.DeepCutAuto
import Derived.Deep.RegionLaw
import Derived.Test.Qxb6605955aLast
namespace Go.Proofs.Qxb6605955a
open Go.RowKit
attribute [local go_sem ↓] Go.wp_at_zero Go.wp_at_succ
set_option linter.unusedSimpArgs false

/-- A slice of numbers of the call's own. -/
def Row (w : World) (g n : Nat) (V : Nat → Value) : Prop := ∀ j, j < n → w.cell? ⟨g, j, none⟩ = some (V j)

def scells (vm : Value) : Array Value := #[.pointer none, .int .i32 0, .int .u32 0, .int .u64 0, .int .u64 0, vm, .slice none 0 0, .map none]
def pcells (sb : Nat) (rdV : Value) (mk : ByteArray) (tn ts : Int) (horV : Value) (hist : ByteArray) : Array Value :=
  #[.pointer (some ⟨sb, 0, none⟩), .bool false, .slice none 0 0, .int .i32 0, .int .u32 0, rdV, .string mk, .int .u64 tn, .int .i64 ts, .pointer none, horV, .int .i32 0, .int .u32 0, .string hist]
/-- One reading's four cells; those of the first k. -/
def rdCell (r : Rd) : List Value := [.int .u64 (r.at_ % 1000000000), .int .i64 (r.at_ / 1000000000), .pointer none, .int .u64 r.ts]
def rdTo (R : Nat → Rd) : Nat → List Value
  | 0 => []
  | k + 1 => rdTo R k ++ rdCell (R k)
def InR (R : Nat → Rd) (n : Nat) : Prop := ∀ i, i < n → -9223372036854775808 ≤ (R i).at_ ∧ (R i).at_ ≤ 9223372036854775807

/-- Below B all but the blocks of X are as they were. -/
structure FrB (B : Nat) (X : List Nat) (w w' : World) : Prop where
  os : w'.os = w.os
  tape : w'.tape = w.tape
  output : w'.output = w.output
  size : w.heap.size ≤ w'.heap.size
  block : ∀ k, k < B → k ∉ X → w'.heap[k]? = w.heap[k]?
theorem FrB.refl (B : Nat) (X : List Nat) (w : World) : FrB B X w w := ⟨rfl, rfl, rfl, Nat.le_refl _, fun _ _ _ => rfl⟩
theorem FrB.trans {B : Nat} {X : List Nat} {a b c : World} (h : FrB B X a b) (k : FrB B X b c) : FrB B X a c :=
  ⟨k.os.trans h.os, k.tape.trans h.tape, k.output.trans h.output, Nat.le_trans h.size k.size, fun i hi hx => (k.block i hi hx).trans (h.block i hi hx)⟩
theorem FrB.of {B : Nat} {X Y : List Nat} {a b : World} (h : Fr Y a b) (hB : B ≤ a.heap.size) (hs : ∀ k, k < B → k ∈ Y → k ∈ X) : FrB B X a b :=
  ⟨h.os, h.tape, h.output, h.size, fun i hi hx => h.block i (by omega) fun hm => hx (hs i hi hm)⟩
theorem FrB.below {B B0 pb : Nat} {w w' : World} (h : FrB B [pb] w w') (h0 : B0 ≤ B) (h1 : B0 ≤ pb) : Below B0 w w' :=
  ⟨h.os, h.tape, h.output, h.size, fun k hk => h.block k (by omega) (by simp; omega)⟩
theorem FrB.fr {X : List Nat} {w w' : World} (h : FrB w.heap.size X w w') : Fr X w w' := ⟨h.os, h.tape, h.output, h.size, h.block⟩
theorem FrB.cell {B : Nat} {X : List Nat} {w w' : World} (h : FrB B X w w') {b o : Nat} {v : Value} (hb : b < B) (hx : b ∉ X) (hc : w.cell? ⟨b, o, none⟩ = some v) : w'.cell? ⟨b, o, none⟩ = some v :=
  (World.cell?_of_block (a := ⟨b, o, none⟩) (h.block b hb hx)).trans hc

theorem Try.info80 : (Try.prog.info? 80).map (fun i => (i.zero, i.size, i.bytes)) = some (some (.agg #[.int .u64 0, .int .i64 0, .pointer none, .int .u64 0]), 4, 32) := by kernel_rfl

/-- A call of (time.Time).Add, at a step of a region that draws its order. -/
theorem step_add30 {ops : Array Oper} {o : Oper} {a : Act} {w : World} {K : Act → World → Prop} {Q : Exit → Act → World → Prop} {E : Prop} (hgd : o.guard = none) (s x : Operand)
    (ho : o.op = .call { callee := .value (.func 30), args := #[s, x], argTypes := #[56, 53] }) (v1 v2 : Value) (hs : a.eval s = v1) (hx : a.eval x = v2) (d : Value)
    (hc : Calls Try.prog 30 #[v1, v2] w fun e w' => e = .returned d ∧ K (a.put o.dst d) w') :
    if Region.wanted o (yielded ops a.tmps) = true then Oper.wp Try.prog o a w K Q else E := by
  have hw : Region.wanted o (yielded ops a.tmps) = true := by simp [Region.wanted, hgd]
  rw [if_pos hw]
  have hr : (execOp a.eval o).run Try.prog w = .ok (.enter 30 #[v1, v2]) w := by
    simp [execOp, ho, go_sem]
    exact ⟨by rw [← hs]; cases s <;> simp [Act.eval], by rw [← hx]; cases x <;> simp [Act.eval]⟩
  unfold Oper.wp
  rw [hr, Oper.upon_enter]
  refine hc.mono ?_
  rintro e w' ⟨rfl, h⟩
  exact h

/-- The six cells that a round reads, in another world. -/
def Six (pb zb ht ha k f : Nat) (hv : Value) (r : Rd) (w' : World) : Prop :=
  w'.cell? ⟨pb, f, none⟩ = some hv ∧ w'.cell? ⟨zb, 0, none⟩ = some (.int .u64 0) ∧ w'.cell? ⟨zb, 1, none⟩ = some (.int .i64 0) ∧ w'.cell? ⟨zb, 2, none⟩ = some (.pointer none) ∧ w'.cell? ⟨ht, k, none⟩ = some (.int .u64 r.ts) ∧ w'.cell? ⟨ha, k, none⟩ = some (.int .i64 r.at_)
theorem Six.below {pb zb ht ha k f : Nat} {hv : Value} {r : Rd} {w1 w2 : World} (h : Six pb zb ht ha k f hv r w1) (hb : Below w1.heap.size w1 w2) : Six pb zb ht ha k f hv r w2 :=
  ⟨cell_kept hb (World.block_lt_of_cell? _ _ h.1) h.1, cell_kept hb (World.block_lt_of_cell? _ _ h.2.1) h.2.1, cell_kept hb (World.block_lt_of_cell? _ _ h.2.2.1) h.2.2.1, cell_kept hb (World.block_lt_of_cell? _ _ h.2.2.2.1) h.2.2.2.1, cell_kept hb (World.block_lt_of_cell? _ _ h.2.2.2.2.1) h.2.2.2.2.1, cell_kept hb (World.block_lt_of_cell? _ _ h.2.2.2.2.2) h.2.2.2.2.2⟩
theorem Six.grown {pb zb ht ha k f : Nat} {hv : Value} {r : Rd} {w1 w2 : World} {row : Option Nat} {B : Nat} (h : Six pb zb ht ha k f hv r w1) (hg : w1.grownBy w2 row) (hr : ∀ g, row = some g → B ≤ g) (h1 : pb < B) (h2 : zb < B) (h3 : ht < B) (h4 : ha < B) : Six pb zb ht ha k f hv r w2 := by
  have key : ∀ {b o : Nat} {v : Value}, b < B → w1.cell? ⟨b, o, none⟩ = some v → w2.cell? ⟨b, o, none⟩ = some v := fun {b o v} hb hc =>
    (World.cell?_of_block (a := ⟨b, o, none⟩) (hg.block b (World.block_lt_of_cell? _ _ hc) (fun e => by have := hr b e.symm; omega))).trans hc
  exact ⟨key h1 h.1, key h2 h.2.1, key h2 h.2.2.1, key h2 h.2.2.2.1, key h3 h.2.2.2.2.1, key h4 h.2.2.2.2.2⟩

theorem kept4 {wr w1 w2 : World} {pb : Nat} {o o1 : Obj} {row : Option Nat} (h : wr.heap[pb]? = some o) (hb : Below wr.heap.size wr.drew w1) (hg : (w1.alloc o1).grownBy w2 row) (hne : some pb ≠ row) : w2.heap[pb]? = some o := by
  have h1 : w1.heap[pb]? = some o := (hb.block pb (lt_of h)).trans h
  rw [hg.block pb (by have := lt_of h1; simp; omega) hne, old_at _ (lt_of h1)]
  exact h1

/-- A loop that gathers readings, so far: C is the part with the row at its place. -/
structure Lp (w : World) (pb : Nat) (C : Value → Array Value) (H : Nat → Rd) (k : Nat) (wr : World) : Prop where
  part : ∃ v, wr.heap[pb]? = some (.cells (C v) 77 (0, 0)) ∧ wr.ownsRow w.heap.size 80 4 v k (rdTo H k)
  frame : FrB w.heap.size [pb] w wr

theorem round_fr {B pb : Nat} {w0 wr w1 w2 : World} {o1 : Obj} {row : Option Nat} (h : FrB B [pb] w0 wr) (hB : B ≤ wr.heap.size) (hb : Below wr.heap.size wr.drew w1) (hg : (w1.alloc o1).grownBy w2 row) (hr : ∀ g, row = some g → B ≤ g) (j : Nat) (v : Value) : FrB B [pb] w0 (w2.setCell ⟨pb, j, none⟩ v) := by
  have f1 : Fr [pb, row.getD pb] wr w1 := ⟨hb.os, hb.tape, hb.output, hb.size, fun i hi _ => hb.block i hi⟩
  have f2 := (f1.alloc o1).grown hg (fun k e _ => by subst e; simp)
  have f3 := f2.setCell (b := pb) (by simp) j v
  refine h.trans (FrB.of f3 hB ?_)
  intro k hk hm
  simp only [List.mem_cons, List.not_mem_nil, or_false] at hm ⊢
  rcases hm with rfl | hm
  · rfl
  · cases row with
    | none => simpa using hm
    | some g => have := hr g rfl; simp at hm; omega

/-- A part as ZZnewPart leaves it. -/
structure Part (pb sb : Nat) (hist mk : ByteArray) (mat : Int) (n m : Nat) (H R : Nat → Rd) (vm : Value) (w : World) : Prop where
  rows : ∃ horV rdV B1 B2, w.heap[pb]? = some (.cells (pcells sb rdV mk (mat % 1000000000) (mat / 1000000000) horV hist) 77 (0, 0)) ∧ w.ownsRow B1 80 4 horV n (rdTo H n) ∧ w.ownsRow B2 80 4 rdV m (rdTo R m)
  store : w.heap[sb]? = some (.cells (scells vm) 70 (0, 0))

set_option maxRecDepth 100000 in
set_option maxHeartbeats 3200000 in
/-- ZZnewPart. -/
theorem new15 (hist mk : ByteArray) (ht ha rt ra n m : Nat) (H R : Nat → Rd) (mat : Int) (w : World) (hn : (n : Int) ≤ 65536) (hm : (m : Int) ≤ 65536) (hH : InR H n) (hR : InR R m) (hmat : -9223372036854775808 ≤ mat ∧ mat ≤ 9223372036854775807)
    (rht : Row w ht n fun j => .int .u64 (H j).ts) (rha : Row w ha n fun j => .int .i64 (H j).at_) (rrt : Row w rt m fun j => .int .u64 (R j).ts) (rra : Row w ra m fun j => .int .i64 (R j).at_) :
    Calls Try.prog 15 #[.string hist, .slice (some ⟨ht, 0, none⟩) n n, .slice (some ⟨ha, 0, none⟩) n n, .slice (some ⟨rt, 0, none⟩) m m, .slice (some ⟨ra, 0, none⟩) m m, .string mk, .int .i64 mat] w fun e w' =>
      e = .returned (.pointer (some ⟨w.heap.size + 1 + 1, 0, none⟩)) ∧ Part (w.heap.size + 1 + 1) (w.heap.size + 1) hist mk mat n m H R (.map none) w' ∧ Below w.heap.size w w' := by
  have HMAT := hide hmat; clear hmat
  have HH := hide hH; have HR := hide hR; have RHT := hide rht; have RHA := hide rha; have RRT := hide rrt; have RRA := hide rra
  clear hH hR rht rha rrt rra
  go_enter Try.func15, Try.ntmps15
  go_wp2
  generalize hw0 : ((w.alloc (.cells #[.int .u64 0, .int .i64 0, .pointer none] 56)).alloc (.cells #[.pointer none, .int .i32 0, .int .u32 0, .int .u64 0, .int .u64 0, .map none, .slice none 0 0, .map none] 70)).alloc (.cells #[.pointer (some ⟨w.heap.size + 1, 0, none⟩), .bool false, .slice none 0 0, .int .i32 0, .int .u32 0, .slice none 0 0, .string { data := #[] }, .int .u64 0, .int .i64 0, .pointer none, .slice none 0 0, .int .i32 0, .int .u32 0, .string hist] 77) = w0
  have z0 : w0.heap[w.heap.size]? = some (.cells #[.int .u64 0, .int .i64 0, .pointer none] 56 (0, 0)) := by rw [← hw0, old_at _ (by simp; omega), old_at _ (by simp), new_at]
  have s0 : w0.heap[w.heap.size + 1]? = some (.cells (scells (.map none)) 70 (0, 0)) := by
    rw [← hw0, old_at _ (by simp)]
    have := new_at (w.alloc (.cells #[.int .u64 0, .int .i64 0, .pointer none] 56)) (.cells (scells (.map none)) 70)
    simpa [scells] using this
  have p0 : w0.heap[w.heap.size + 1 + 1]? = some (.cells (pcells (w.heap.size + 1) (.slice none 0 0) { data := #[] } 0 0 (.slice none 0 0) hist) 77 (0, 0)) := by
    rw [← hw0]
    have := new_at ((w.alloc (.cells #[.int .u64 0, .int .i64 0, .pointer none] 56)).alloc (.cells #[.pointer none, .int .i32 0, .int .u32 0, .int .u64 0, .int .u64 0, .map none, .slice none 0 0, .map none] 70)) (.cells (pcells (w.heap.size + 1) (.slice none 0 0) { data := #[] } 0 0 (.slice none 0 0) hist) 77)
    simpa [pcells] using this
  have b0 : Below w.heap.size w w0 := by rw [← hw0]; exact (((Below.refl _ _).alloc (Nat.le_refl _) _).alloc (by simp) _).alloc (by simp; omega) _
  have hz0 : w0.heap.size = w.heap.size + 3 := by rw [← hw0]; simp
  clear hw0
  have Z0 := hide z0; have S0 := hide s0; have P0 := hide p0; have B0 := hide b0; have HZ0 := hide hz0
  clear z0 s0 p0 b0 hz0
  obtain ⟨pb, hpb⟩ : ∃ pb, pb = w.heap.size + 1 + 1 := ⟨_, rfl⟩
  rw [← hpb] at P0 ⊢
  have HPB := hide hpb; clear hpb
  go_loopw [17] (fun i wr => ∃ (k : Nat), k ≤ n ∧ i = .int .i64 k ∧ Lp w0 pb (fun v => pcells (w.heap.size + 1) (.slice none 0 0) { data := #[] } 0 0 v hist) H k wr) (fun i _ => n - (intOf i).toNat)
  case atStart => exact ⟨0, Nat.zero_le _, rfl, ⟨⟨_, P0.out, World.ownsRow_nil _ _ _ _⟩, FrB.refl _ _ _⟩⟩
  case round =>
    obtain ⟨k, hk, rfl, ⟨horV, hp, hown⟩, hfr⟩ := hrel
    have hzl : w.heap.size < w0.heap.size := lt_of Z0.out
    have hzn : w.heap.size ∉ [pb] := by have := HPB.out; simp; omega
    have t0 := hfr.cell hzl hzn ((cell_of Z0.out 0).trans rfl : w0.cell? ⟨w.heap.size, 0, none⟩ = some (.int .u64 0))
    have t1 := hfr.cell hzl hzn ((cell_of Z0.out 1).trans rfl : w0.cell? ⟨w.heap.size, 1, none⟩ = some (.int .i64 0))
    have t2 := hfr.cell hzl hzn ((cell_of Z0.out 2).trans rfl : w0.cell? ⟨w.heap.size, 2, none⟩ = some (.pointer none))
    have hb := B0.out.trans (hfr.below (by have := HZ0.out; omega) (by have := HPB.out; omega))
    by_cases hlt : k < n
    · have u0 := cell_kept hb (World.block_lt_of_cell? _ _ (RHT.out k hlt)) (RHT.out k hlt)
      have u1 := cell_kept hb (World.block_lt_of_cell? _ _ (RHA.out k hlt)) (RHA.out k hlt)
      have q0 : wr.cell? ⟨pb, 10, none⟩ = some horV := (cell_of hp 10).trans rfl
      have HP := hide hp; have HO := hide hown; have HFR := hide hfr
      clear hp hown hfr hb
      have i0 : (0 : Int) ≤ (k : Int) := by omega
      have i1 : (k : Int) < (n : Int) := by omega
      obtain ⟨i0', hi, hz0, hz1, hz2⟩ := info_parts Try.info80
      go_wp2_with fail
      have hpl : pb < w0.heap.size := lt_of P0.out
      have htl : ht < w0.heap.size := Nat.lt_of_lt_of_le (World.block_lt_of_cell? _ _ (RHT.out k hlt)) B0.out.size
      have hal : ha < w0.heap.size := Nat.lt_of_lt_of_le (World.block_lt_of_cell? _ _ (RHA.out k hlt)) B0.out.size
      have HS0 : Hid (Six pb w.heap.size ht ha k 10 horV (H k) wr.drew) := ⟨q0, t0, t1, t2, u0, u1⟩
      have HIN := hide (HH.out k hlt)
      have HADD : Hid (Calls Try.prog 30 #[.agg #[.int .u64 0, .int .i64 0, .pointer none], .int .i64 (H k).at_] wr.drew fun r w' => r = .returned (.agg #[.int .u64 ((H k).at_ % 1000000000), .int .i64 ((H k).at_ / 1000000000), .pointer none]) ∧ Below wr.drew.heap.size wr.drew w') := add30 (H k).at_ wr.drew HIN.out.1 HIN.out.2
      have HLT := hide (own_lt HO.out)
      have hk6 : k + 1 ≤ 65537 := by omega
      have HK6 := hide hk6; clear hk6
      have HBW := hide HFR.out.size
      refine Held.start (Six pb w.heap.size ht ha k 10 horV (H k)) 20 (by kernel_rfl) ?_
      refine Held.take 0 (.pointer (some ⟨pb, 0, none⟩)) (oi := ?ooa0) ?hoa0 (by kernel_rfl) (by kernel_rfl) (by kernel_rfl) (by kernel_rfl) ?hqa0 ?hwa0 ?hya0 HS0.out ?_
      case hoa0 => simp only [List.getElem?_toArray, List.getElem?_cons_succ, List.getElem?_cons_zero]; rfl
      case hqa0 => exact fun _ _ _ h => h
      case hwa0 => rfl
      case hya0 => rintro w9 ⟨c1, c2, c3, c4, c5, c6⟩; go_simp
      try simp only [Act.put, List.setIfInBounds_toArray, List.set_cons_zero, List.set_cons_succ]
      refine Held.take 1 (.pointer (some ⟨pb, 0, none⟩)) (oi := ?ooa1) ?hoa1 (by kernel_rfl) (by kernel_rfl) (by kernel_rfl) (by kernel_rfl) ?hqa1 ?hwa1 ?hya1 HS0.out ?_
      case hoa1 => simp only [List.getElem?_toArray, List.getElem?_cons_succ, List.getElem?_cons_zero]; rfl
      case hqa1 => exact fun _ _ _ h => h
      case hwa1 => rfl
      case hya1 => rintro w9 ⟨c1, c2, c3, c4, c5, c6⟩; go_simp
      try simp only [Act.put, List.setIfInBounds_toArray, List.set_cons_zero, List.set_cons_succ]
      refine Held.take 2 (.pointer (some ⟨pb, 0, none⟩)) (oi := ?ooa2) ?hoa2 (by kernel_rfl) (by kernel_rfl) (by kernel_rfl) (by kernel_rfl) ?hqa2 ?hwa2 ?hya2 HS0.out ?_
      case hoa2 => simp only [List.getElem?_toArray, List.getElem?_cons_succ, List.getElem?_cons_zero]; rfl
      case hqa2 => exact fun _ _ _ h => h
      case hwa2 => rfl
      case hya2 => rintro w9 ⟨c1, c2, c3, c4, c5, c6⟩; go_simp
      try simp only [Act.put, List.setIfInBounds_toArray, List.set_cons_zero, List.set_cons_succ]
      refine Held.take 3 (.pointer (some ⟨pb, 10, none⟩)) (oi := ?ooa3) ?hoa3 (by kernel_rfl) (by kernel_rfl) (by kernel_rfl) (by kernel_rfl) ?hqa3 ?hwa3 ?hya3 HS0.out ?_
      case hoa3 => simp only [List.getElem?_toArray, List.getElem?_cons_succ, List.getElem?_cons_zero]; rfl
      case hqa3 => exact fun _ _ _ h => h
      case hwa3 => rfl
      case hya3 => rintro w9 ⟨c1, c2, c3, c4, c5, c6⟩; go_simp
      try simp only [Act.put, List.setIfInBounds_toArray, List.set_cons_zero, List.set_cons_succ]
      refine Held.take 4 (horV) (oi := ?ooa4) ?hoa4 (by kernel_rfl) (by kernel_rfl) (by kernel_rfl) (by kernel_rfl) ?hqa4 ?hwa4 ?hya4 HS0.out ?_
      case hoa4 => simp only [List.getElem?_toArray, List.getElem?_cons_succ, List.getElem?_cons_zero]; rfl
      case hqa4 => exact fun _ _ _ h => h
      case hwa4 => rfl
      case hya4 => rintro w9 ⟨c1, c2, c3, c4, c5, c6⟩; go_simp
      try simp only [Act.put, List.setIfInBounds_toArray, List.set_cons_zero, List.set_cons_succ]
      refine Held.take 5 (.agg #[.int .u64 0, .int .i64 0, .pointer none]) (oi := ?ooa5) ?hoa5 (by kernel_rfl) (by kernel_rfl) (by kernel_rfl) (by kernel_rfl) ?hqa5 ?hwa5 ?hya5 HS0.out ?_
      case hoa5 => simp only [List.getElem?_toArray, List.getElem?_cons_succ, List.getElem?_cons_zero]; rfl
      case hqa5 => exact fun _ _ _ h => h
      case hwa5 => rfl
      case hya5 => rintro w9 ⟨c1, c2, c3, c4, c5, c6⟩; go_simp
      try simp only [Act.put, List.setIfInBounds_toArray, List.set_cons_zero, List.set_cons_succ]
      refine Held.take 6 (.slice (some ⟨ha, 0, none⟩) n n) (oi := ?ooa6) ?hoa6 (by kernel_rfl) (by kernel_rfl) (by kernel_rfl) (by kernel_rfl) ?hqa6 ?hwa6 ?hya6 HS0.out ?_
      case hoa6 => simp only [List.getElem?_toArray, List.getElem?_cons_succ, List.getElem?_cons_zero]; rfl
      case hqa6 => exact fun _ _ _ h => h
      case hwa6 => rfl
      case hya6 => rintro w9 ⟨c1, c2, c3, c4, c5, c6⟩; go_simp
      try simp only [Act.put, List.setIfInBounds_toArray, List.set_cons_zero, List.set_cons_succ]
      refine Held.take 7 (.int .i64 k) (oi := ?ooa7) ?hoa7 (by kernel_rfl) (by kernel_rfl) (by kernel_rfl) (by kernel_rfl) ?hqa7 ?hwa7 ?hya7 HS0.out ?_
      case hoa7 => simp only [List.getElem?_toArray, List.getElem?_cons_succ, List.getElem?_cons_zero]; rfl
      case hqa7 => exact fun _ _ _ h => h
      case hwa7 => rfl
      case hya7 => rintro w9 ⟨c1, c2, c3, c4, c5, c6⟩; go_simp
      try simp only [Act.put, List.setIfInBounds_toArray, List.set_cons_zero, List.set_cons_succ]
      refine Held.take 8 (.pointer (some ⟨ha, k, none⟩)) (oi := ?ooa8) ?hoa8 (by kernel_rfl) (by kernel_rfl) (by kernel_rfl) (by kernel_rfl) ?hqa8 ?hwa8 ?hya8 HS0.out ?_
      case hoa8 => simp only [List.getElem?_toArray, List.getElem?_cons_succ, List.getElem?_cons_zero]; rfl
      case hqa8 => exact fun _ _ _ h => h
      case hwa8 => rfl
      case hya8 => rintro w9 ⟨c1, c2, c3, c4, c5, c6⟩; go_simp
      try simp only [Act.put, List.setIfInBounds_toArray, List.set_cons_zero, List.set_cons_succ]
      refine Held.take 9 (.int .i64 (H k).at_) (oi := ?ooa9) ?hoa9 (by kernel_rfl) (by kernel_rfl) (by kernel_rfl) (by kernel_rfl) ?hqa9 ?hwa9 ?hya9 HS0.out ?_
      case hoa9 => simp only [List.getElem?_toArray, List.getElem?_cons_succ, List.getElem?_cons_zero]; rfl
      case hqa9 => exact fun _ _ _ h => h
      case hwa9 => rfl
      case hya9 => rintro w9 ⟨c1, c2, c3, c4, c5, c6⟩; go_simp
      try simp only [Act.put, List.setIfInBounds_toArray, List.set_cons_zero, List.set_cons_succ]
      refine Held.take 11 (.slice (some ⟨ht, 0, none⟩) n n) (oi := ?ooa11) ?hoa11 (by kernel_rfl) (by kernel_rfl) (by kernel_rfl) (by kernel_rfl) ?hqa11 ?hwa11 ?hya11 HS0.out ?_
      case hoa11 => simp only [List.getElem?_toArray, List.getElem?_cons_succ, List.getElem?_cons_zero]; rfl
      case hqa11 => exact fun _ _ _ h => h
      case hwa11 => rfl
      case hya11 => rintro w9 ⟨c1, c2, c3, c4, c5, c6⟩; go_simp
      try simp only [Act.put, List.setIfInBounds_toArray, List.set_cons_zero, List.set_cons_succ]
      refine Held.take 12 (.int .i64 k) (oi := ?ooa12) ?hoa12 (by kernel_rfl) (by kernel_rfl) (by kernel_rfl) (by kernel_rfl) ?hqa12 ?hwa12 ?hya12 HS0.out ?_
      case hoa12 => simp only [List.getElem?_toArray, List.getElem?_cons_succ, List.getElem?_cons_zero]; rfl
      case hqa12 => exact fun _ _ _ h => h
      case hwa12 => rfl
      case hya12 => rintro w9 ⟨c1, c2, c3, c4, c5, c6⟩; go_simp
      try simp only [Act.put, List.setIfInBounds_toArray, List.set_cons_zero, List.set_cons_succ]
      refine Held.take 13 (.pointer (some ⟨ht, k, none⟩)) (oi := ?ooa13) ?hoa13 (by kernel_rfl) (by kernel_rfl) (by kernel_rfl) (by kernel_rfl) ?hqa13 ?hwa13 ?hya13 HS0.out ?_
      case hoa13 => simp only [List.getElem?_toArray, List.getElem?_cons_succ, List.getElem?_cons_zero]; rfl
      case hqa13 => exact fun _ _ _ h => h
      case hwa13 => rfl
      case hya13 => rintro w9 ⟨c1, c2, c3, c4, c5, c6⟩; go_simp
      try simp only [Act.put, List.setIfInBounds_toArray, List.set_cons_zero, List.set_cons_succ]
      refine Held.take 14 (.int .u64 (H k).ts) (oi := ?ooa14) ?hoa14 (by kernel_rfl) (by kernel_rfl) (by kernel_rfl) (by kernel_rfl) ?hqa14 ?hwa14 ?hya14 HS0.out ?_
      case hoa14 => simp only [List.getElem?_toArray, List.getElem?_cons_succ, List.getElem?_cons_zero]; rfl
      case hqa14 => exact fun _ _ _ h => h
      case hwa14 => rfl
      case hya14 => rintro w9 ⟨c1, c2, c3, c4, c5, c6⟩; go_simp
      try simp only [Act.put, List.setIfInBounds_toArray, List.set_cons_zero, List.set_cons_succ]
      refine Held.one 10 (o := ?ooa10) (by kernel_rfl) ?hoa10 fun K hK => ?_
      case hoa10 => simp only [List.getElem?_toArray, List.getElem?_cons_succ, List.getElem?_cons_zero]; rfl
      refine step_add30 ?_ (.tmp 35) (.tmp 39) ?_ (.agg #[.int .u64 0, .int .i64 0, .pointer none]) (.int .i64 (H k).at_) ?_ ?_ (.agg #[.int .u64 ((H k).at_ % 1000000000), .int .i64 ((H k).at_ / 1000000000), .pointer none]) ?_
      · rfl
      · rfl
      · rfl
      · rfl
      refine HADD.out.mono ?_
      rintro e w1 ⟨rfl, hb1⟩
      refine ⟨rfl, hK.out _ _ (fun _ => Six.below HS0.out hb1) ?_⟩
      clear hK K
      have HS1 := Six.below HS0.out hb1
      try simp only [Act.put, List.setIfInBounds_toArray, List.set_cons_zero, List.set_cons_succ]
      refine Held.take 15 (.agg #[.int .u64 ((H k).at_ % 1000000000), .int .i64 ((H k).at_ / 1000000000), .pointer none, .int .u64 (H k).ts]) (oi := ?ooa15) ?hoa15 (by kernel_rfl) (by kernel_rfl) (by kernel_rfl) (by kernel_rfl) ?hqa15 ?hwa15 ?hya15 HS1 ?_
      case hoa15 => simp only [List.getElem?_toArray, List.getElem?_cons_succ, List.getElem?_cons_zero]; rfl
      case hqa15 => exact fun _ _ _ h => h
      case hwa15 => rfl
      case hya15 => rintro w9 ⟨c1, c2, c3, c4, c5, c6⟩; go_simp
      try simp only [Act.put, List.setIfInBounds_toArray, List.set_cons_zero, List.set_cons_succ]
      refine Held.one 16 (o := ?ooa16) (by kernel_rfl) ?hoa16 fun K hK => ?_
      case hoa16 => simp only [List.getElem?_toArray, List.getElem?_cons_succ, List.getElem?_cons_zero]; rfl
      go_simp
      refine hK.out _ _ (fun _ => Six.below HS1 ((Below.refl _ _).alloc (Nat.le_refl _) _)) ?_
      clear hK K
      have HS2 := fun o => Six.below HS1 ((Below.refl _ _).alloc (Nat.le_refl _) o)
      have own1 := own_fr (X := []) (World.ownsRow.drew HO.out) (Fr.of_below hb1) (by simp)
      try simp only [Act.put, List.setIfInBounds_toArray, List.set_cons_zero, List.set_cons_succ]
      refine Held.one 17 (o := ?ooa17) (by kernel_rfl) ?hoa17 fun K hK => ?_
      case hoa17 => simp only [List.getElem?_toArray, List.getElem?_cons_succ, List.getElem?_cons_zero]; rfl
      refine step_append_lies _ (by rfl) (.tmp 34) (.tmp 46) _ (by rfl) w0.heap.size 80 i0' _ 4 32 Try.underlying75 hi hz0 hz1 hz2 rfl (by omega) horV k (rdTo H k) (by rfl) (own1.alloc _) ⟨w1.heap.size, 0, none⟩ 1 1 [.int .u64 ((H k).at_ % 1000000000), .int .i64 ((H k).at_ / 1000000000), .pointer none, .int .u64 (H k).ts] (by rfl) (by rfl) (World.news_of_block (cs := #[.int .u64 ((H k).at_ % 1000000000), .int .i64 ((H k).at_ / 1000000000), .pointer none, .int .u64 (H k).ts]) (t := 80) (fr := (0, 0)) (heap_alloc_new w1 _)) (by simp [Value.oneCell']) (by omega) (by unfold maxLen; have := HK6.out; omega) (by have := HK6.out; omega) (by have := HBW.out; have := hb1.size; simp at this ⊢; omega) (w1.heap.size + 1) (by simp) ?_
      intro g cap w2 hown2 hgrow hat hglt
      have kp := kept4 HP.out hb1 hgrow (fun e => absurd (HLT.out pb e.symm).1 (by omega))
      have HS3 := Six.grown (B := w0.heap.size) (HS2 _) hgrow (fun g e => (HLT.out g e).1) hpl hzl htl hal
      refine hK.out _ _ (fun _ => HS3) ?_
      clear hK K
      try simp only [Act.put, List.setIfInBounds_toArray, List.set_cons_zero, List.set_cons_succ]
      refine Held.one 18 (o := ?ooa18) (by kernel_rfl) ?hoa18 fun K hK => ?_
      case hoa18 => simp only [List.getElem?_toArray, List.getElem?_cons_succ, List.getElem?_cons_zero]; rfl
      go_simp
      refine hK.out _ _ (fun _ => HS3) ?_
      clear hK K
      try simp only [Act.put, List.setIfInBounds_toArray, List.set_cons_zero, List.set_cons_succ]
      refine Held.one 19 (o := ?ooa19) (by kernel_rfl) ?hoa19 fun K hK => ?_
      case hoa19 => simp only [List.getElem?_toArray, List.getElem?_cons_succ, List.getElem?_cons_zero]; rfl
      go_simp
      refine hK.out _ _ (fun _ => HS3) ?_
      clear hK K
      try simp only [Act.put, List.setIfInBounds_toArray, List.set_cons_zero, List.set_cons_succ]
      have fz := free_of kp 10
      have cz := HS3.1
      refine Held.one 20 (o := ?ooa20) (by kernel_rfl) ?hoa20 fun K hK => ?_
      case hoa20 => simp only [List.getElem?_toArray, List.getElem?_cons_succ, List.getElem?_cons_zero]; rfl
      go_simp
      refine hK.out _ _ (fun h => absurd rfl h) ?_
      clear hK K
      refine Held.done (by kernel_rfl) ?_ _
      have HX : Hid (Lp w0 pb (fun v => pcells (w.heap.size + 1) (.slice none 0 0) { data := #[] } 0 0 v hist) H (k + 1) (w2.setCell ⟨pb, 10, none⟩ (.slice (some ⟨g, 0, none⟩) (k + 1) cap))) := ⟨⟨_, set_same kp 10 _, own_set hown2 kp (by simp) _ _⟩, round_fr HFR.out HBW.out hb1 hgrow (fun g e => (HLT.out g e).1) _ _⟩
      go_wp2_with fail
      go_roundw
      case rel => exact ⟨k + 1, by omega, by go_num, HX.out⟩
      case measure => simp [intOf]; omega
    · obtain rfl : n = k := by omega
      have HP1 := hide hp; have HO1 := hide hown; have HFR1 := hide hfr; have HB1 := hide hb; have T0 := hide t0; have T1 := hide t1; have T2 := hide t2
      clear hp hown hfr hb t0 t1 t2
      go_wp2_with fail
      obtain ⟨wA, hwA⟩ : ∃ wA, wA = wr := ⟨_, rfl⟩
      rw [← hwA] at HP1 HO1 HFR1 HB1 T0 T1 T2 ⊢
      clear hwA
      have HZA : Hid (w0.heap.size ≤ wA.heap.size) := HFR1.out.size
      have hpA : pb < wA.heap.size := lt_of HP1.out
      have HPA := hide hpA; clear hpA
      go_loopw [18] (fun i wr => ∃ (k : Nat), k ≤ m ∧ i = .int .i64 k ∧ Lp wA pb (fun v => pcells (w.heap.size + 1) v { data := #[] } 0 0 horV hist) R k wr) (fun i _ => m - (intOf i).toNat)
      case atStart => exact ⟨0, Nat.zero_le _, rfl, ⟨⟨_, HP1.out, World.ownsRow_nil _ _ _ _⟩, FrB.refl _ _ _⟩⟩
      case round =>
        obtain ⟨k, hk, rfl, ⟨rdV, hp, hown⟩, hfr⟩ := hrel
        have hzl : w.heap.size < wA.heap.size := by have := HZ0.out; have := HZA.out; omega
        have t0 := hfr.cell hzl hzn T0.out
        have t1 := hfr.cell hzl hzn T1.out
        have t2 := hfr.cell hzl hzn T2.out
        have hb := HB1.out.trans (hfr.below (by omega) (by have := HPB.out; omega))
        by_cases hlt : k < m
        · have u0 := cell_kept hb (World.block_lt_of_cell? _ _ (RRT.out k hlt)) (RRT.out k hlt)
          have u1 := cell_kept hb (World.block_lt_of_cell? _ _ (RRA.out k hlt)) (RRA.out k hlt)
          have q0 : wr.cell? ⟨pb, 5, none⟩ = some rdV := (cell_of hp 5).trans rfl
          have HP := hide hp; have HO := hide hown; have HFR := hide hfr
          clear hp hown hfr hb
          have i0 : (0 : Int) ≤ (k : Int) := by omega
          have i1 : (k : Int) < (m : Int) := by omega
          obtain ⟨i0', hi, hz0, hz1, hz2⟩ := info_parts Try.info80
          go_wp2_with fail
          have hpl : pb < wA.heap.size := HPA.out
          have htl : rt < wA.heap.size := Nat.lt_of_lt_of_le (World.block_lt_of_cell? _ _ (RRT.out k hlt)) HB1.out.size
          have hal : ra < wA.heap.size := Nat.lt_of_lt_of_le (World.block_lt_of_cell? _ _ (RRA.out k hlt)) HB1.out.size
          have HS0 : Hid (Six pb w.heap.size rt ra k 5 rdV (R k) wr.drew) := ⟨q0, t0, t1, t2, u0, u1⟩
          have HIN := hide (HR.out k hlt)
          have HADD : Hid (Calls Try.prog 30 #[.agg #[.int .u64 0, .int .i64 0, .pointer none], .int .i64 (R k).at_] wr.drew fun r w' => r = .returned (.agg #[.int .u64 ((R k).at_ % 1000000000), .int .i64 ((R k).at_ / 1000000000), .pointer none]) ∧ Below wr.drew.heap.size wr.drew w') := add30 (R k).at_ wr.drew HIN.out.1 HIN.out.2
          have HLT := hide (own_lt HO.out)
          have hk6 : k + 1 ≤ 65537 := by omega
          have HK6 := hide hk6; clear hk6
          have HBW := hide HFR.out.size
          refine Held.start (Six pb w.heap.size rt ra k 5 rdV (R k)) 22 (by kernel_rfl) ?_
          refine Held.take 0 (.pointer (some ⟨pb, 0, none⟩)) (oi := ?oob0) ?hob0 (by kernel_rfl) (by kernel_rfl) (by kernel_rfl) (by kernel_rfl) ?hqb0 ?hwb0 ?hyb0 HS0.out ?_
          case hob0 => simp only [List.getElem?_toArray, List.getElem?_cons_succ, List.getElem?_cons_zero]; rfl
          case hqb0 => exact fun _ _ _ h => h
          case hwb0 => rfl
          case hyb0 => rintro w9 ⟨c1, c2, c3, c4, c5, c6⟩; go_simp
          try simp only [Act.put, List.setIfInBounds_toArray, List.set_cons_zero, List.set_cons_succ]
          refine Held.take 1 (.pointer (some ⟨pb, 0, none⟩)) (oi := ?oob1) ?hob1 (by kernel_rfl) (by kernel_rfl) (by kernel_rfl) (by kernel_rfl) ?hqb1 ?hwb1 ?hyb1 HS0.out ?_
          case hob1 => simp only [List.getElem?_toArray, List.getElem?_cons_succ, List.getElem?_cons_zero]; rfl
          case hqb1 => exact fun _ _ _ h => h
          case hwb1 => rfl
          case hyb1 => rintro w9 ⟨c1, c2, c3, c4, c5, c6⟩; go_simp
          try simp only [Act.put, List.setIfInBounds_toArray, List.set_cons_zero, List.set_cons_succ]
          refine Held.take 2 (.pointer (some ⟨pb, 0, none⟩)) (oi := ?oob2) ?hob2 (by kernel_rfl) (by kernel_rfl) (by kernel_rfl) (by kernel_rfl) ?hqb2 ?hwb2 ?hyb2 HS0.out ?_
          case hob2 => simp only [List.getElem?_toArray, List.getElem?_cons_succ, List.getElem?_cons_zero]; rfl
          case hqb2 => exact fun _ _ _ h => h
          case hwb2 => rfl
          case hyb2 => rintro w9 ⟨c1, c2, c3, c4, c5, c6⟩; go_simp
          try simp only [Act.put, List.setIfInBounds_toArray, List.set_cons_zero, List.set_cons_succ]
          refine Held.take 3 (.pointer (some ⟨pb, 3, none⟩)) (oi := ?oob3) ?hob3 (by kernel_rfl) (by kernel_rfl) (by kernel_rfl) (by kernel_rfl) ?hqb3 ?hwb3 ?hyb3 HS0.out ?_
          case hob3 => simp only [List.getElem?_toArray, List.getElem?_cons_succ, List.getElem?_cons_zero]; rfl
          case hqb3 => exact fun _ _ _ h => h
          case hwb3 => rfl
          case hyb3 => rintro w9 ⟨c1, c2, c3, c4, c5, c6⟩; go_simp
          try simp only [Act.put, List.setIfInBounds_toArray, List.set_cons_zero, List.set_cons_succ]
          refine Held.take 4 (.pointer (some ⟨pb, 5, none⟩)) (oi := ?oob4) ?hob4 (by kernel_rfl) (by kernel_rfl) (by kernel_rfl) (by kernel_rfl) ?hqb4 ?hwb4 ?hyb4 HS0.out ?_
          case hob4 => simp only [List.getElem?_toArray, List.getElem?_cons_succ, List.getElem?_cons_zero]; rfl
          case hqb4 => exact fun _ _ _ h => h
          case hwb4 => rfl
          case hyb4 => rintro w9 ⟨c1, c2, c3, c4, c5, c6⟩; go_simp
          try simp only [Act.put, List.setIfInBounds_toArray, List.set_cons_zero, List.set_cons_succ]
          refine Held.take 5 (rdV) (oi := ?oob5) ?hob5 (by kernel_rfl) (by kernel_rfl) (by kernel_rfl) (by kernel_rfl) ?hqb5 ?hwb5 ?hyb5 HS0.out ?_
          case hob5 => simp only [List.getElem?_toArray, List.getElem?_cons_succ, List.getElem?_cons_zero]; rfl
          case hqb5 => exact fun _ _ _ h => h
          case hwb5 => rfl
          case hyb5 => rintro w9 ⟨c1, c2, c3, c4, c5, c6⟩; go_simp
          try simp only [Act.put, List.setIfInBounds_toArray, List.set_cons_zero, List.set_cons_succ]
          refine Held.take 6 (.agg #[.int .u64 0, .int .i64 0, .pointer none]) (oi := ?oob6) ?hob6 (by kernel_rfl) (by kernel_rfl) (by kernel_rfl) (by kernel_rfl) ?hqb6 ?hwb6 ?hyb6 HS0.out ?_
          case hob6 => simp only [List.getElem?_toArray, List.getElem?_cons_succ, List.getElem?_cons_zero]; rfl
          case hqb6 => exact fun _ _ _ h => h
          case hwb6 => rfl
          case hyb6 => rintro w9 ⟨c1, c2, c3, c4, c5, c6⟩; go_simp
          try simp only [Act.put, List.setIfInBounds_toArray, List.set_cons_zero, List.set_cons_succ]
          refine Held.take 7 (.slice (some ⟨ra, 0, none⟩) m m) (oi := ?oob7) ?hob7 (by kernel_rfl) (by kernel_rfl) (by kernel_rfl) (by kernel_rfl) ?hqb7 ?hwb7 ?hyb7 HS0.out ?_
          case hob7 => simp only [List.getElem?_toArray, List.getElem?_cons_succ, List.getElem?_cons_zero]; rfl
          case hqb7 => exact fun _ _ _ h => h
          case hwb7 => rfl
          case hyb7 => rintro w9 ⟨c1, c2, c3, c4, c5, c6⟩; go_simp
          try simp only [Act.put, List.setIfInBounds_toArray, List.set_cons_zero, List.set_cons_succ]
          refine Held.take 8 (.int .i64 k) (oi := ?oob8) ?hob8 (by kernel_rfl) (by kernel_rfl) (by kernel_rfl) (by kernel_rfl) ?hqb8 ?hwb8 ?hyb8 HS0.out ?_
          case hob8 => simp only [List.getElem?_toArray, List.getElem?_cons_succ, List.getElem?_cons_zero]; rfl
          case hqb8 => exact fun _ _ _ h => h
          case hwb8 => rfl
          case hyb8 => rintro w9 ⟨c1, c2, c3, c4, c5, c6⟩; go_simp
          try simp only [Act.put, List.setIfInBounds_toArray, List.set_cons_zero, List.set_cons_succ]
          refine Held.take 9 (.pointer (some ⟨ra, k, none⟩)) (oi := ?oob9) ?hob9 (by kernel_rfl) (by kernel_rfl) (by kernel_rfl) (by kernel_rfl) ?hqb9 ?hwb9 ?hyb9 HS0.out ?_
          case hob9 => simp only [List.getElem?_toArray, List.getElem?_cons_succ, List.getElem?_cons_zero]; rfl
          case hqb9 => exact fun _ _ _ h => h
          case hwb9 => rfl
          case hyb9 => rintro w9 ⟨c1, c2, c3, c4, c5, c6⟩; go_simp
          try simp only [Act.put, List.setIfInBounds_toArray, List.set_cons_zero, List.set_cons_succ]
          refine Held.take 10 (.int .i64 (R k).at_) (oi := ?oob10) ?hob10 (by kernel_rfl) (by kernel_rfl) (by kernel_rfl) (by kernel_rfl) ?hqb10 ?hwb10 ?hyb10 HS0.out ?_
          case hob10 => simp only [List.getElem?_toArray, List.getElem?_cons_succ, List.getElem?_cons_zero]; rfl
          case hqb10 => exact fun _ _ _ h => h
          case hwb10 => rfl
          case hyb10 => rintro w9 ⟨c1, c2, c3, c4, c5, c6⟩; go_simp
          try simp only [Act.put, List.setIfInBounds_toArray, List.set_cons_zero, List.set_cons_succ]
          refine Held.take 12 (.slice (some ⟨rt, 0, none⟩) m m) (oi := ?oob12) ?hob12 (by kernel_rfl) (by kernel_rfl) (by kernel_rfl) (by kernel_rfl) ?hqb12 ?hwb12 ?hyb12 HS0.out ?_
          case hob12 => simp only [List.getElem?_toArray, List.getElem?_cons_succ, List.getElem?_cons_zero]; rfl
          case hqb12 => exact fun _ _ _ h => h
          case hwb12 => rfl
          case hyb12 => rintro w9 ⟨c1, c2, c3, c4, c5, c6⟩; go_simp
          try simp only [Act.put, List.setIfInBounds_toArray, List.set_cons_zero, List.set_cons_succ]
          refine Held.take 13 (.int .i64 k) (oi := ?oob13) ?hob13 (by kernel_rfl) (by kernel_rfl) (by kernel_rfl) (by kernel_rfl) ?hqb13 ?hwb13 ?hyb13 HS0.out ?_
          case hob13 => simp only [List.getElem?_toArray, List.getElem?_cons_succ, List.getElem?_cons_zero]; rfl
          case hqb13 => exact fun _ _ _ h => h
          case hwb13 => rfl
          case hyb13 => rintro w9 ⟨c1, c2, c3, c4, c5, c6⟩; go_simp
          try simp only [Act.put, List.setIfInBounds_toArray, List.set_cons_zero, List.set_cons_succ]
          refine Held.take 14 (.pointer (some ⟨rt, k, none⟩)) (oi := ?oob14) ?hob14 (by kernel_rfl) (by kernel_rfl) (by kernel_rfl) (by kernel_rfl) ?hqb14 ?hwb14 ?hyb14 HS0.out ?_
          case hob14 => simp only [List.getElem?_toArray, List.getElem?_cons_succ, List.getElem?_cons_zero]; rfl
          case hqb14 => exact fun _ _ _ h => h
          case hwb14 => rfl
          case hyb14 => rintro w9 ⟨c1, c2, c3, c4, c5, c6⟩; go_simp
          try simp only [Act.put, List.setIfInBounds_toArray, List.set_cons_zero, List.set_cons_succ]
          refine Held.take 15 (.int .u64 (R k).ts) (oi := ?oob15) ?hob15 (by kernel_rfl) (by kernel_rfl) (by kernel_rfl) (by kernel_rfl) ?hqb15 ?hwb15 ?hyb15 HS0.out ?_
          case hob15 => simp only [List.getElem?_toArray, List.getElem?_cons_succ, List.getElem?_cons_zero]; rfl
          case hqb15 => exact fun _ _ _ h => h
          case hwb15 => rfl
          case hyb15 => rintro w9 ⟨c1, c2, c3, c4, c5, c6⟩; go_simp
          try simp only [Act.put, List.setIfInBounds_toArray, List.set_cons_zero, List.set_cons_succ]
          refine Held.one 11 (o := ?oob11) (by kernel_rfl) ?hob11 fun K hK => ?_
          case hob11 => simp only [List.getElem?_toArray, List.getElem?_cons_succ, List.getElem?_cons_zero]; rfl
          refine step_add30 ?_ (.tmp 62) (.tmp 66) ?_ (.agg #[.int .u64 0, .int .i64 0, .pointer none]) (.int .i64 (R k).at_) ?_ ?_ (.agg #[.int .u64 ((R k).at_ % 1000000000), .int .i64 ((R k).at_ / 1000000000), .pointer none]) ?_
          · rfl
          · rfl
          · rfl
          · rfl
          refine HADD.out.mono ?_
          rintro e w1 ⟨rfl, hb1⟩
          refine ⟨rfl, hK.out _ _ (fun _ => Six.below HS0.out hb1) ?_⟩
          clear hK K
          have HS1 := Six.below HS0.out hb1
          try simp only [Act.put, List.setIfInBounds_toArray, List.set_cons_zero, List.set_cons_succ]
          refine Held.take 16 (.agg #[.int .u64 ((R k).at_ % 1000000000), .int .i64 ((R k).at_ / 1000000000), .pointer none, .int .u64 (R k).ts]) (oi := ?oob16) ?hob16 (by kernel_rfl) (by kernel_rfl) (by kernel_rfl) (by kernel_rfl) ?hqb16 ?hwb16 ?hyb16 HS1 ?_
          case hob16 => simp only [List.getElem?_toArray, List.getElem?_cons_succ, List.getElem?_cons_zero]; rfl
          case hqb16 => exact fun _ _ _ h => h
          case hwb16 => rfl
          case hyb16 => rintro w9 ⟨c1, c2, c3, c4, c5, c6⟩; go_simp
          try simp only [Act.put, List.setIfInBounds_toArray, List.set_cons_zero, List.set_cons_succ]
          refine Held.one 17 (o := ?oob17) (by kernel_rfl) ?hob17 fun K hK => ?_
          case hob17 => simp only [List.getElem?_toArray, List.getElem?_cons_succ, List.getElem?_cons_zero]; rfl
          go_simp
          refine hK.out _ _ (fun _ => Six.below HS1 ((Below.refl _ _).alloc (Nat.le_refl _) _)) ?_
          clear hK K
          have HS2 := fun o => Six.below HS1 ((Below.refl _ _).alloc (Nat.le_refl _) o)
          have own1 := own_fr (X := []) (World.ownsRow.drew HO.out) (Fr.of_below hb1) (by simp)
          try simp only [Act.put, List.setIfInBounds_toArray, List.set_cons_zero, List.set_cons_succ]
          refine Held.one 18 (o := ?oob18) (by kernel_rfl) ?hob18 fun K hK => ?_
          case hob18 => simp only [List.getElem?_toArray, List.getElem?_cons_succ, List.getElem?_cons_zero]; rfl
          refine step_append_lies _ (by rfl) (.tmp 61) (.tmp 73) _ (by rfl) wA.heap.size 80 i0' _ 4 32 Try.underlying72 hi hz0 hz1 hz2 rfl (by omega) rdV k (rdTo R k) (by rfl) (own1.alloc _) ⟨w1.heap.size, 0, none⟩ 1 1 [.int .u64 ((R k).at_ % 1000000000), .int .i64 ((R k).at_ / 1000000000), .pointer none, .int .u64 (R k).ts] (by rfl) (by rfl) (World.news_of_block (cs := #[.int .u64 ((R k).at_ % 1000000000), .int .i64 ((R k).at_ / 1000000000), .pointer none, .int .u64 (R k).ts]) (t := 80) (fr := (0, 0)) (heap_alloc_new w1 _)) (by simp [Value.oneCell']) (by omega) (by unfold maxLen; have := HK6.out; omega) (by have := HK6.out; omega) (by have := HBW.out; have := hb1.size; simp at this ⊢; omega) (w1.heap.size + 1) (by simp) ?_
          intro g cap w2 hown2 hgrow hat hglt
          have kp := kept4 HP.out hb1 hgrow (fun e => absurd (HLT.out pb e.symm).1 (by omega))
          have HS3 := Six.grown (B := wA.heap.size) (HS2 _) hgrow (fun g e => (HLT.out g e).1) hpl hzl htl hal
          refine hK.out _ _ (fun _ => HS3) ?_
          clear hK K
          try simp only [Act.put, List.setIfInBounds_toArray, List.set_cons_zero, List.set_cons_succ]
          refine Held.one 19 (o := ?oob19) (by kernel_rfl) ?hob19 fun K hK => ?_
          case hob19 => simp only [List.getElem?_toArray, List.getElem?_cons_succ, List.getElem?_cons_zero]; rfl
          go_simp
          refine hK.out _ _ (fun _ => HS3) ?_
          clear hK K
          try simp only [Act.put, List.setIfInBounds_toArray, List.set_cons_zero, List.set_cons_succ]
          refine Held.one 20 (o := ?oob20) (by kernel_rfl) ?hob20 fun K hK => ?_
          case hob20 => simp only [List.getElem?_toArray, List.getElem?_cons_succ, List.getElem?_cons_zero]; rfl
          go_simp
          refine hK.out _ _ (fun _ => HS3) ?_
          clear hK K
          try simp only [Act.put, List.setIfInBounds_toArray, List.set_cons_zero, List.set_cons_succ]
          refine Held.one 21 (o := ?oob21) (by kernel_rfl) ?hob21 fun K hK => ?_
          case hob21 => simp only [List.getElem?_toArray, List.getElem?_cons_succ, List.getElem?_cons_zero]; rfl
          go_simp
          refine hK.out _ _ (fun _ => HS3) ?_
          clear hK K
          try simp only [Act.put, List.setIfInBounds_toArray, List.set_cons_zero, List.set_cons_succ]
          have fz := free_of kp 5
          have cz := HS3.1
          refine Held.one 22 (o := ?oob22) (by kernel_rfl) ?hob22 fun K hK => ?_
          case hob22 => simp only [List.getElem?_toArray, List.getElem?_cons_succ, List.getElem?_cons_zero]; rfl
          go_simp
          refine hK.out _ _ (fun h => absurd rfl h) ?_
          clear hK K
          refine Held.done (by kernel_rfl) ?_ _
          have HX : Hid (Lp wA pb (fun v => pcells (w.heap.size + 1) v { data := #[] } 0 0 horV hist) R (k + 1) (w2.setCell ⟨pb, 5, none⟩ (.slice (some ⟨g, 0, none⟩) (k + 1) cap))) := ⟨⟨_, set_same kp 5 _, own_set hown2 kp (by simp) _ _⟩, round_fr HFR.out HBW.out hb1 hgrow (fun g e => (HLT.out g e).1) _ _⟩
          go_wp2_with fail
          go_roundw
          case rel => exact ⟨k + 1, by omega, by go_num, HX.out⟩
          case measure => simp [intOf]; omega
        · obtain rfl : m = k := by omega
          have q6 : wr.cell? ⟨pb, 6, none⟩ = some (.string { data := #[] }) := (cell_of hp 6).trans rfl
          have f6 : wr.frozen? ⟨pb, 6, none⟩ = false := free_of hp 6
          have hne1 : ¬ pb = w.heap.size := by have := HPB.out; omega
          have hne2 : ¬ w.heap.size = pb := by have := HPB.out; omega
          have HP := hide hp; have HO := hide hown; have HFR := hide hfr; have HB := hide hb
          clear hp hown hfr hb
          go_wp2_with fail
          have kB := set_same HP.out 6 (.string mk)
          have oR := own_set HO.out HP.out (by simp) 6 (.string mk)
          have oH := own_set (own_fr HO1.out HFR.out.fr (by intro g hg; have := own_lt HO1.out g hg; have := lt_of P0.out; simp; omega)) HP.out (by simp) 6 (.string mk)
          have HADD : Calls Try.prog 30 #[.agg #[.int .u64 0, .int .i64 0, .pointer none], .int .i64 mat] (wr.setCell ⟨pb, 6, none⟩ (.string mk)) fun r w' => r = .returned (.agg #[.int .u64 (mat % 1000000000), .int .i64 (mat / 1000000000), .pointer none]) ∧ Below (wr.setCell ⟨pb, 6, none⟩ (.string mk)).heap.size (wr.setCell ⟨pb, 6, none⟩ (.string mk)) w' := add30 mat _ HMAT.out.1 HMAT.out.2
          refine HADD.mono ?_
          clear HADD
          rintro e w3 ⟨rfl, hb3⟩
          have k3 := (hb3.block pb (lt_of kB)).trans kB
          have oR3 := own_fr (X := []) oR (Fr.of_below hb3) (by simp)
          have oH3 := own_fr (X := []) oH (Fr.of_below hb3) (by simp)
          have c7 : w3.cell? ⟨pb, 7, none⟩ = some (.int .u64 0) := (cell_of k3 7).trans rfl
          have c8 : w3.cell? ⟨pb, 8, none⟩ = some (.int .i64 0) := (cell_of k3 8).trans rfl
          have c9 : w3.cell? ⟨pb, 9, none⟩ = some (.pointer none) := (cell_of k3 9).trans rfl
          have f7 := free_of k3 7
          have f8 := free_of k3 8
          have f9 := free_of k3 9
          have K3 := hide k3; have OR3 := hide oR3; have OH3 := hide oH3; have HB3 := hide hb3
          clear k3 oR3 oH3 hb3 kB oR oH
          go_wp2_with fail
          have k7 := set_same K3.out 7 (.int .u64 (mat % 1000000000))
          have k8 := set_same k7 8 (.int .i64 (mat / 1000000000))
          have k9 := set_same k8 9 (.pointer none)
          have r7 := own_set OR3.out K3.out (by simp) 7 (.int .u64 (mat % 1000000000))
          have r8 := own_set r7 k7 (by simp) 8 (.int .i64 (mat / 1000000000))
          have r9 := own_set r8 k8 (by simp) 9 (.pointer none)
          have h7 := own_set OH3.out K3.out (by simp) 7 (.int .u64 (mat % 1000000000))
          have h8 := own_set h7 k7 (by simp) 8 (.int .i64 (mat / 1000000000))
          have h9 := own_set h8 k8 (by simp) 9 (.pointer none)
          have hlt1 : w.heap.size + 1 < w0.heap.size := lt_of S0.out
          have hs1 : wA.heap[w.heap.size + 1]? = some (.cells (scells (.map none)) 70 (0, 0)) := (HFR1.out.block _ hlt1 (by have := HPB.out; simp; omega)).trans S0.out
          have hs2 : wr.heap[w.heap.size + 1]? = some (.cells (scells (.map none)) 70 (0, 0)) := (HFR.out.block _ (lt_of hs1) (by have := HPB.out; simp; omega)).trans hs1
          have hs3 : (wr.setCell ⟨pb, 6, none⟩ (.string mk)).heap[w.heap.size + 1]? = some (.cells (scells (.map none)) 70 (0, 0)) := (set_other 6 (.string mk) (by have := HPB.out; omega)).trans hs2
          have hs4 := (HB3.out.block _ (lt_of hs3)).trans hs3
          have b3 : Below w.heap.size w w3 := (HB.out.setCell (p := ⟨pb, 6, none⟩) (by have := HPB.out; simp; omega) (.string mk)).trans (HB3.out.mono (by have := HB.out.size; simp; omega))
          refine bodyPost_ret (v := .pointer (some ⟨pb, 0, none⟩)) (by simp [results, Try.results15, go_sem]) rfl ⟨by rw [HPB.out], ⟨⟨horV, rdV, _, _, ?_, h9, r9⟩, ?_⟩, ?_⟩
          · rw [← HPB.out]; exact k9
          · exact ((set_other 9 _ (by have := HPB.out; omega)).trans ((set_other 8 _ (by have := HPB.out; omega)).trans (set_other 7 _ (by have := HPB.out; omega)))).trans hs4
          · exact ((b3.setCell (p := ⟨pb, 7, none⟩) (by have := HPB.out; simp; omega) _).setCell (p := ⟨pb, 8, none⟩) (by have := HPB.out; simp; omega) _).setCell (p := ⟨pb, 9, none⟩) (by have := HPB.out; simp; omega) _
end Go.Proofs.Qxb6605955a

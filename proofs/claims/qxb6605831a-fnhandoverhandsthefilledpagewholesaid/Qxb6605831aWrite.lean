import Derived.Test.Qxb6605831aAdd
import Derived.Test.Qxb6605831aStamps
namespace Go.Proofs.Qxb6605831a
open Go.RowKit

/-- The first n bytes, as cells. -/
def byteCells (n : Nat) (Z : Nat → Int) : List Value := (List.range n).map fun j => .int .u8 (Z j)
theorem byteCells_length (n : Nat) (Z : Nat → Int) : (byteCells n Z).length = n := by simp [byteCells]

theorem own_form {w : World} {B : Nat} {e : TypeId} {size : Nat} {v : Value} {n : Nat} {xs : List Value} (h : w.ownsRow B e size v n xs) : ∃ bp mc, v = .slice bp n mc := by
  rcases h.2 with ⟨rfl, rfl⟩ | ⟨g, cap, cur, rfl, _⟩
  · exact ⟨_, _, rfl⟩
  · exact ⟨_, _, rfl⟩

/-- 'append(v, value...)', v a row of the call's own, value whatever slice of bytes. -/
theorem run_append35 (w : World) (ty : TypeId) (B : Nat) (v : Value) (m : Nat) (xs : List Value) (hown : w.ownsRow B 5 1 v m xs) (p : Option Addr) (len c : Nat) (Z : Nat → Int) (hby : Bytes w p len Z) (hb : m + len ≤ 1048576) (hB : B ≤ w.heap.size) :
    ∃ bp mc w', (Builtin.append_ #[35, 35] ty #[v, .slice p len c]).run Try.prog w = .ok (.slice bp (m + len) mc) w' ∧ w'.ownsRow B 5 1 (.slice bp (m + len) mc) (m + len) (xs ++ byteCells len Z) ∧ w.grownBy w' v.ownBlock := by
  obtain ⟨i, hi, hz, h1, h2⟩ := info_parts Try.info5
  cases p with
  | none =>
    obtain rfl := hby.1 rfl
    obtain ⟨bp, mc, rfl⟩ := own_form hown
    refine ⟨bp, mc, w, ?_, by simpa [byteCells] using hown, World.grownBy.refl _ _⟩
    rcases hown.2 with ⟨e, rfl⟩ | ⟨g, cap, cur, e, _, _, hnc, _⟩
    · simp at e; obtain ⟨rfl, rfl⟩ := e
      simp [Builtin.append_, run_underlying Try.underlying35, sizeOf, typeInfo, hi, Builtin.lenOf, Builtin.firstCells]
    · simp at e; obtain ⟨rfl, rfl⟩ := e
      simp [Builtin.append_, run_underlying Try.underlying35, sizeOf, typeInfo, hi, Builtin.lenOf, Builtin.firstCells, hnc, storeCells]
  | some a =>
    obtain ⟨v', w', hr, h3, h4, _, _⟩ := run_append_own_at (P := Try.prog) w B 35 ty 5 i _ 1 1 Try.underlying35 hi hz h1 h2 rfl (by omega) v m xs hown a len c (byteCells len Z) (by simp [byteCells_length])
      (fun j u hu => by
        have hj : j < len := by
          rcases Nat.lt_or_ge j len with h | h
          · exact h
          · rw [List.getElem?_eq_none (by rw [byteCells_length]; exact h)] at hu; cases hu
        obtain ⟨b, off, e, hc⟩ := hby.2 j hj
        simp only [Option.some.injEq] at e
        subst e
        have : u = .int .u8 (Z j) := by simp [byteCells, hj] at hu; exact hu.symm
        have ha : (⟨b, off, none⟩ : Addr).add j = ⟨b, off + j, none⟩ := by unfold Addr.add; split <;> simp_all
        rw [this, ha]; exact hc)
      (fun u hu => by
        simp [byteCells] at hu
        obtain ⟨j, _, rfl⟩ := hu
        rfl)
      (by unfold maxLen; omega) (by omega) hB
    obtain ⟨bp, mc, rfl⟩ := own_form h3
    exact ⟨bp, mc, w', hr, h3, h4⟩

theorem wpList_append35 {w : World} {ops : Array Oper} {rest : List Oper} {o : Oper} {a : Act} {Q : Exit → Act → World → Prop} (hgd : o.guard = none) (s x : Operand)
    (ho : o.op = .call { callee := .builtin .append, args := #[s, x], argTypes := #[35, 35] })
    (B : Nat) (v : Value) (m : Nat) (xs : List Value) (hs : a.eval s = v) (hown : w.ownsRow B 5 1 v m xs) (p : Option Addr) (len c : Nat) (Z : Nat → Int) (hx : a.eval x = .slice p len c) (hby : Bytes w p len Z) (hb : m + len ≤ 1048576) (hB : B ≤ w.heap.size)
    (h : ∀ bp mc w', w'.ownsRow B 5 1 (.slice bp (m + len) mc) (m + len) (xs ++ byteCells len Z) → w.grownBy w' v.ownBlock → wpList Try.prog ops Q rest (a.put o.dst (.slice bp (m + len) mc)) w') : wpList Try.prog ops Q (o :: rest) a w := by
  refine wpList_plain hgd fun K hK => ?_
  obtain ⟨bp, mc, w', hr, h3, h4⟩ := run_append35 w o.type B v m xs hown p len c Z hby hb hB
  unfold Oper.wp execOp
  simp only [ho, resolve, invoke, builtin, Sem.run_bind, Sem.run_pure, Result.andThen_ok, List.map_toArray, List.map_cons, List.map_nil, hs, hx, hr]
  exact hK _ _ (h bp mc w' h3 h4)

theorem keptC {B : Nat} {e : TypeId} {size n : Nat} {v : Value} {xs : List Value} {w0 w1 : World} (hown : w0.ownsRow B e size v n xs) (hg : w0.grownBy w1 v.ownBlock) {k : Nat} {o' : Obj} (hk : w0.heap[k]? = some o') (hne : ∀ cur, o' ≠ .cells cur e (0, 0)) : w1.heap[k]? = some o' := by
  rw [hg.block k (lt_of hk) (ownBlock_ne hown hk hne)]
  exact hk
theorem own_kept {B : Nat} {e e' : TypeId} {size n size' n' : Nat} {v v' : Value} {xs xs' : List Value} {w0 w1 : World} (h : w0.ownsRow B e size v n xs) (h' : w0.ownsRow B e' size' v' n' xs') (hne : e ≠ e') (hg : w0.grownBy w1 v'.ownBlock) : w1.ownsRow B e size v n xs := by
  refine ⟨h.1, ?_⟩
  rcases h.2 with h0 | ⟨g, cap, cur, hv, hb, hh, r⟩
  · exact .inl h0
  · exact .inr ⟨g, cap, cur, hv, hb, keptC h' hg hh (by simpa using hne), r⟩
theorem own_set {B : Nat} {e : TypeId} {size n : Nat} {v : Value} {xs : List Value} {w : World} (h : w.ownsRow B e size v n xs) {b : Nat} {o : Obj} (hb : w.heap[b]? = some o) (hne : ∀ cur, o ≠ .cells cur e (0, 0)) (j : Nat) (u : Value) : (w.setCell ⟨b, j, none⟩ u).ownsRow B e size v n xs :=
  ownsRow_setCell_other h (a := ⟨b, j, none⟩) (fun e => ownBlock_ne h hb hne e.symm) u
theorem ne_of_types {w : World} {a b : Nat} {ca cb : Array Value} {ta tb : TypeId} (ha : w.heap[a]? = some (.cells ca ta (0, 0))) (hb : w.heap[b]? = some (.cells cb tb (0, 0))) (h : ta ≠ tb) : a ≠ b := by
  rintro rfl
  rw [ha] at hb
  simp at hb
  exact h hb.2

theorem own_lt {B : Nat} {e : TypeId} {size n : Nat} {v : Value} {xs : List Value} {w : World} (h : w.ownsRow B e size v n xs) : ∀ g, v.ownBlock = some g → B ≤ g ∧ g < w.heap.size := by
  intro g hg
  rcases h.2 with ⟨rfl, _⟩ | ⟨g', cap, cur, rfl, hb, hh, r⟩
  · simp [Value.ownBlock] at hg
  · simp [Value.ownBlock] at hg
    subst hg
    exact ⟨hb, lt_of hh⟩
theorem own_fr {B : Nat} {e : TypeId} {size n : Nat} {v : Value} {xs : List Value} {w w' : World} {X : List Nat} (h : w.ownsRow B e size v n xs) (hf : Fr X w w') (hx : ∀ g, v.ownBlock = some g → g ∉ X) : w'.ownsRow B e size v n xs := by
  refine ⟨h.1, ?_⟩
  rcases h.2 with h0 | ⟨g, cap, cur, hv, hb, hh, r⟩
  · exact .inl h0
  · exact .inr ⟨g, cap, cur, hv, hb, (hf.block g (lt_of hh) (hx g (by rw [hv]; rfl))).trans hh, r⟩
theorem own_type {B : Nat} {e : TypeId} {size n : Nat} {v : Value} {xs : List Value} {w : World} (h : w.ownsRow B e size v n xs) {g : Nat} (hg : v.ownBlock = some g) : ∃ cur, w.heap[g]? = some (.cells cur e (0, 0)) := by
  rcases h.2 with ⟨rfl, _⟩ | ⟨g', cap, cur, rfl, hb, hh, r⟩
  · simp [Value.ownBlock] at hg
  · simp [Value.ownBlock] at hg
    subst hg
    exact ⟨cur, hh⟩

/-- The page that a Writer fills. -/
structure Filling (B : Nat) (w : World) (wb pb : Nat) (spare : Value) (infl given handed : Int) (tb fb sb rb : Nat) (recV : Value) (bp : Option Addr) (mc n : Nat) (recs : List Value) (m : Nat) (byts : List Value) : Prop where
  writer : w.heap[wb]? = some (.cells (wcells (ptr pb) spare infl given handed tb fb sb rb) 95 (0, 0))
  page : w.heap[pb]? = some (.cells #[recV, .slice bp m mc, .slice none 0 0, .nilIface] 99 (0, 0))
  recs : w.ownsRow B 111 7 recV n recs
  byts : w.ownsRow B 5 1 (.slice bp m mc) m byts
  base : B ≤ w.heap.size

/-- Below B all but the Writer's own block and its page's are as they were. -/
structure FrB (B : Nat) (X : List Nat) (w w' : World) : Prop where
  os : w'.os = w.os
  tape : w'.tape = w.tape
  output : w'.output = w.output
  size : w.heap.size ≤ w'.heap.size
  block : ∀ k, k < B → k ∉ X → w'.heap[k]? = w.heap[k]?
theorem FrB.refl (B : Nat) (X : List Nat) (w : World) : FrB B X w w := ⟨rfl, rfl, rfl, Nat.le_refl _, fun _ _ _ => rfl⟩
theorem FrB.trans {B : Nat} {X : List Nat} {a b c : World} (h : FrB B X a b) (k : FrB B X b c) : FrB B X a c :=
  ⟨k.os.trans h.os, k.tape.trans h.tape, k.output.trans h.output, Nat.le_trans h.size k.size, fun i hi hx => (k.block i hi hx).trans (h.block i hi hx)⟩
theorem FrB.of {B : Nat} {X Y : List Nat} {a b : World} (h : Fr Y a b) (hB : B ≤ a.heap.size) (hs : ∀ k, k < B → k ∈ Y → k ∈ X) : FrB B X a b :=
  ⟨h.os, h.tape, h.output, h.size, fun i hi hx => h.block i (by omega) fun hm => hx (hs i hi hm)⟩

def Stop (p : Prop) : Prop := p
theorem stop {p : Prop} (h : Stop p) : p := h
/-- The record that WriteStamp makes. -/
def recCells (s : Stamp) (start : Nat) : List Value := [.int .u8 0, .int .u8 s.typ, .int .u8 s.lsn, .int .u32 s.spi, .int .i64 s.frame, .int .i64 start, .int .i64 ((start + s.len : Nat) : Int)]

set_option maxRecDepth 100000 in
set_option maxHeartbeats 1000000 in
theorem write30 (B wb pb : Nat) (spare : Value) (infl given handed : Int) (tb fb sb rb : Nat) (recV : Value) (bp : Option Addr) (mc n m : Nat) (recs byts : List Value) (s : Stamp) (p : Option Addr) (c : Nat) (w : World)
    (hn : n < 511) (hm : m + s.len ≤ 65535) (hg0 : 0 ≤ given) (hg1 : given ≤ 4611686018427389000)
    (hF : Filling B w wb pb spare infl given handed tb fb sb rb recV bp mc n recs m byts) (hby : Bytes w p s.len s.bytes) :
    Calls Try.prog 30 #[ptr wb, .int .u32 s.spi, .int .u8 s.lsn, .int .i64 s.frame, .int .u8 s.typ, .slice p s.len c] w fun e w' => ∃ recV' bp' mc', e = .returned .nilIface ∧
      Filling B w' wb pb spare infl (given + 1) handed tb fb sb rb recV' bp' mc' (n + 1) (recs ++ recCells s m) (m + s.len) (byts ++ byteCells s.len s.bytes) ∧ FrB B [wb, pb] w w' := by
  have HF := hide hF; have HBY := hide hby
  have hlw := lt_of hF.writer
  have hlp := lt_of hF.page
  have c0 : w.cell? ⟨wb, 0, none⟩ = some (.pointer (some ⟨pb, 0, none⟩)) := (cell_of hF.writer 0).trans rfl
  have c5 : w.cell? ⟨wb, 5, none⟩ = some .nilIface := (cell_of hF.writer 5).trans rfl
  have p1 : w.cell? ⟨pb, 1, none⟩ = some (.slice bp m mc) := (cell_of hF.page 1).trans rfl
  have p1' : ∀ o : Obj, (w.alloc o).cell? ⟨pb, 1, none⟩ = some (.slice bp m mc) := fun o => (World.cell?_of_block (a := ⟨pb, 1, none⟩) (old_at o hlp)).trans p1
  clear hF hby
  have hm' : (m : Int) + (s.len : Int) < 65536 := by omega
  have HM : Hid (m + s.len ≤ 1048576) := by unfold Hid; omega
  have HB : ∀ o : Obj, Hid (B ≤ (w.alloc o).heap.size) := fun o => by unfold Hid; have := HF.out.base; simp; omega
  clear hm
  show Calls Try.prog 30 #[.pointer (some ⟨wb, 0, none⟩), _, _, _, _, _] _ _
  go_enter Try.func30, Try.ntmps30
  go_upto_region 5 with fail
  generalize hwA : w.alloc (.cells #[.int .u8 0, .int .u8 s.typ, .int .u8 s.lsn, .int .u32 s.spi, .int .i64 s.frame, .int .i64 m, .int .i64 0] 111) = wA
  have hxA : wA.heap[w.heap.size]? = some (.cells #[.int .u8 0, .int .u8 s.typ, .int .u8 s.lsn, .int .u32 s.spi, .int .i64 s.frame, .int .i64 m, .int .i64 0] 111 (0, 0)) := by rw [← hwA, new_at]
  have hsA : wA.heap.size = w.heap.size + 1 := by rw [← hwA]; simp
  have HFA : Hid (Filling B wA wb pb spare infl given handed tb fb sb rb recV bp mc n recs m byts) := by
    rw [← hwA]
    exact ⟨(old_at _ hlw).trans HF.out.writer, (old_at _ hlp).trans HF.out.page, HF.out.recs.alloc _, HF.out.byts.alloc _, by have := HF.out.base; simp; omega⟩
  have HBA : Hid (Bytes wA p s.len s.bytes) := by rw [← hwA]; exact HBY.out.later ((Below.refl _ _).alloc (Nat.le_refl _) _)
  have HFR : Hid (FrB B [wb, pb] w wA) := by rw [← hwA]; exact FrB.of ((Fr.refl [] _).alloc _) HF.out.base (by simp)
  have HM2 := hide hm'; clear hm'
  have HRL := hide (own_lt HF.out.recs)
  have HBL := hide (own_lt HF.out.byts)
  have HBB := hide HF.out.base
  clear hwA HF HBY HB p1 p1' c0 c5
  have p1 : wA.cell? ⟨pb, 1, none⟩ = some (.slice bp m mc) := (cell_of HFA.out.page 1).trans rfl
  have HXA := hide hxA; have HSA := hide hsA; clear hxA hsA
  go_wp2_with (at_builtin; refine stop ?_)
  refine wpList_append35 rfl (.tmp 42) (.tmp 43) rfl B (.slice bp m mc) m byts rfl HFA.out.byts p s.len c s.bytes rfl HBA.out HM.out HFA.out.base ?_
  intro bp' mc' w1 hown1 hgrow
  have kw := keptC HFA.out.byts hgrow HFA.out.writer (by simp)
  have kp := keptC HFA.out.byts hgrow HFA.out.page (by simp)
  have kx := keptC HFA.out.byts hgrow HXA.out (by simp)
  have KR := hide (own_kept HFA.out.recs HFA.out.byts (by decide) hgrow)
  have KB := hide hown1; clear hown1
  have n1 := ne_of_types kw kp (by decide)
  have n2 := ne_of_types kp kx (by decide)
  have n3 := ne_of_types kw kx (by decide)
  have p1 : w1.cell? ⟨pb, 1, none⟩ = some (.slice bp m mc) := (cell_of kp 1).trans rfl
  have f1 := free_of kp 1
  have x0 : w1.cell? ⟨w.heap.size, 0, none⟩ = some (.int .u8 0) := (cell_of kx 0).trans rfl
  have x1 : w1.cell? ⟨w.heap.size, 1, none⟩ = some (.int .u8 s.typ) := (cell_of kx 1).trans rfl
  have x2 : w1.cell? ⟨w.heap.size, 2, none⟩ = some (.int .u8 s.lsn) := (cell_of kx 2).trans rfl
  have x3 : w1.cell? ⟨w.heap.size, 3, none⟩ = some (.int .u32 s.spi) := (cell_of kx 3).trans rfl
  have x4 : w1.cell? ⟨w.heap.size, 4, none⟩ = some (.int .i64 s.frame) := (cell_of kx 4).trans rfl
  have x5 : w1.cell? ⟨w.heap.size, 5, none⟩ = some (.int .i64 m) := (cell_of kx 5).trans rfl
  have x6 : w1.cell? ⟨w.heap.size, 6, none⟩ = some (.int .i64 0) := (cell_of kx 6).trans rfl
  have f6 := free_of kx 6
  have KW := hide kw; have KP := hide kp; have KX := hide kx; have HG := hide hgrow
  clear kw kp kx hgrow
  go_wp2_with fail
  generalize hw3 : (w1.setCell ⟨pb, 1, none⟩ (.slice bp' (m + s.len) mc')).setCell ⟨w.heap.size, 6, none⟩ (.int .i64 ((m : Int) + (s.len : Int))) = w3
  have W1 : (w1.setCell ⟨pb, 1, none⟩ (.slice bp' (m + s.len) mc')).heap[w.heap.size]? = some (.cells #[.int .u8 0, .int .u8 s.typ, .int .u8 s.lsn, .int .u32 s.spi, .int .i64 s.frame, .int .i64 m, .int .i64 0] 111 (0, 0)) := (set_other _ _ (Ne.symm n2)).trans KX.out
  have kw3 : w3.heap[wb]? = some (.cells (wcells (ptr pb) spare infl given handed tb fb sb rb) 95 (0, 0)) := by
    rw [← hw3, set_other _ _ n3, set_other _ _ n1]; exact KW.out
  have kp3 : w3.heap[pb]? = some (.cells #[recV, .slice bp' (m + s.len) mc', .slice none 0 0, .nilIface] 99 (0, 0)) := by
    rw [← hw3, set_other _ _ n2, set_same KP.out]; rfl
  have kr3 : w3.ownsRow B 111 7 recV n recs := by
    rw [← hw3]
    have h1 := own_set KR.out KP.out (by simp) 1 (.slice bp' (m + s.len) mc')
    refine ownsRow_setCell_other h1 (a := ⟨w.heap.size, 6, none⟩) (fun e => ?_) _
    exact absurd (HRL.out _ e).2 (Nat.lt_irrefl _)
  have kb3 : w3.ownsRow B 5 1 (.slice bp' (m + s.len) mc') (m + s.len) (byts ++ byteCells s.len s.bytes) := by
    rw [← hw3]
    exact own_set (own_set KB.out KP.out (by simp) _ _) W1 (by simp) _ _
  have kg3 : Fr (pb :: w.heap.size :: (Value.slice bp m mc).ownBlock.toList) wA w3 := by
    rw [← hw3]
    exact Fr.setCell (Fr.setCell (Fr.grown (Fr.refl _ _) HG.out fun k hk _ => by rw [hk]; simp) (by simp) _ _) (by simp) _ _
  have kf3 : FrB B [wb, pb] w w3 := by
    refine HFR.out.trans (FrB.of kg3 HFA.out.base fun k hk hm => ?_)
    have hbb := HBB.out
    rcases List.mem_cons.1 hm with rfl | hm
    · simp
    rcases List.mem_cons.1 hm with rfl | hm
    · exact absurd hk (by omega)
    · have := (HBL.out k (by simpa using hm)).1
      omega
  have hs3 : B ≤ w3.heap.size := Nat.le_trans HFA.out.base kg3.size
  clear hw3 W1 KW KP KX KR KB HG x0 x1 x2 x3 x4 x5 x6 f6 p1 f1
  have KW3 := hide kw3; have KP3 := hide kp3; have KB3 := hide kb3; have KF3 := hide kf3
  refine (add37 B wb pb spare infl given handed tb fb sb rb recV bp' (m + s.len) mc' _ _ n recs _ _ _ _ _ _ _ w3 hs3 hn (by have := HM2.out; omega) hg0 hg1 kw3 kp3 kr3).mono ?_
  rintro e w4 ⟨g, cap, rfl, h1, h2, h3, h4⟩
  have hby4 : w4.ownsRow B 5 1 (.slice bp' (m + s.len) mc') (m + s.len) (byts ++ byteCells s.len s.bytes) := by
    refine own_fr KB3.out h4 fun g' hg' hm => ?_
    obtain ⟨cur, hcur⟩ := own_type KB3.out hg'
    rcases List.mem_cons.1 hm with rfl | hm
    · exact ne_of_types hcur KW3.out (by decide) rfl
    rcases List.mem_cons.1 hm with rfl | hm
    · exact ne_of_types hcur KP3.out (by decide) rfl
    · obtain ⟨cur', hcur'⟩ := own_type kr3 (g := g') (by simpa using hm)
      exact ne_of_types hcur hcur' (by decide) rfl
  have hfr4 : FrB B [wb, pb] w3 w4 := FrB.of h4 hs3 fun k hk hm => by
    rcases List.mem_cons.1 hm with rfl | hm
    · simp
    rcases List.mem_cons.1 hm with rfl | hm
    · simp
    · have := (own_lt kr3 k (by simpa using hm)).1
      omega
  have RR := hide (show Filling B w4 wb pb spare infl (given + 1) handed tb fb sb rb (.slice (some ⟨g, 0, none⟩) (n + 1) cap) bp' mc' (n + 1) (recs ++ recCells s m) (m + s.len) (byts ++ byteCells s.len s.bytes) ∧ FrB B [wb, pb] w w4 from
    ⟨⟨h1, h2, by simpa [recCells] using h3, hby4, Nat.le_trans hs3 h4.size⟩, KF3.out.trans hfr4⟩)
  clear h1 h2 h3 h4 hby4 hfr4 kw3 kp3 kr3 kb3 kf3
  go_wp2
  go_ret
  exact ⟨_, bp', mc', rfl, RR.out⟩
end Go.Proofs.Qxb6605831a

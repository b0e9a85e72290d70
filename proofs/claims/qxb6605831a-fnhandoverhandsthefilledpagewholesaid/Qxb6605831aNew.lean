import Derived.Test.Qxb6605831aSmall
import Derived.Test.Qxb6605831aTake
import Derived.Deep.DeepCutAuto
import Derived.Deep.AppendLies
import Derived.Test.Qxb6605831aProg
import Derived.Laws.Tables
import Derived.RegionTactic
import Derived.Conc.LoneCalls
namespace Go.Proofs.Qxb6605831a
open Go.RowKit

/-- A runner's cells, all zero. -/
theorem built89 : ∃ z : Array Value, Try.prog.built 89 [] = some z ∧ z.size = 286 := by
  have h : (Try.prog.built 89 []).map (·.size) = some 286 := by kernel_rfl
  obtain ⟨z, h1, h2⟩ := Option.map_eq_some_iff.1 h
  exact ⟨z, h1, h2⟩

theorem wpList_build89 {z : Array Value} (hz : Try.prog.built 89 [] = some z) {ops : Array Oper} {rest : List Oper} {o : Oper} {a : Act} {w : World} {Q : Exit → Act → World → Prop} (hg : o.guard = none) (ho : o.op = .build 89 #[])
    (h : wpList Try.prog ops Q rest (a.put o.dst (.agg z)) w) : wpList Try.prog ops Q (o :: rest) a w := by
  refine wpList_plain hg fun K hK => wp_build 89 #[] ho ?_ ?_
  · simp [hz]
  · simp only [List.map_toArray, List.map_nil, hz, Option.getD_some]
    exact hK _ _ h

/-- 'make([]kpi.Block, 0, 30)'. -/
theorem make56 : ∃ y : Array Value, ∀ w : World, (Instr.makeSlice 56 (.int .i64 0) (.int .i64 30)).run Try.prog w = .ok (.slice (some ⟨w.heap.size, 0, none⟩) 0 30) (w.alloc (.cells y 136)) := by
  have h : (Try.prog.info? 136).map (fun i => (i.zero.isSome && decide (i.bytes * 30 ≤ 281474976710656))) = some true := by kernel_rfl
  obtain ⟨i, h1, h2⟩ := Option.map_eq_some_iff.1 h
  simp only [Bool.and_eq_true, decide_eq_true_eq] at h2
  obtain ⟨z, hz⟩ := Option.isSome_iff_exists.1 h2.1
  refine ⟨madeCells z.cells (30 * i.size), fun w => ?_⟩
  have := run_make (P := Try.prog) w 56 136 i z Try.underlying56 h1 hz .i64 .i64 0 30 (by omega) (by omega) (by omega) (by omega)
  simpa using this


theorem Try.info29 : (Try.prog.info? 29).map (fun i => (i.zero, i.size, i.bytes)) = some (some (.pointer none), 1, 8) := by kernel_rfl
theorem Try.info83 : (Try.prog.info? 83).map (fun i => i.bytes) = some 0 := by kernel_rfl
theorem mk91 (w : World) : (Instr.makeChan 91 (.int .i64 4)).run Try.prog w = .ok (.chan (some w.heap.size)) (w.alloc (.chan 4 #[] false 0 0 false)) := by
  obtain ⟨i, hi, _, _, hb⟩ := info_parts Try.info29
  simpa using Go.Conc.run_makeChan (P := Try.prog) (w := w) Try.underlying91 hi .i64 4 (by omega) (by rw [hb]; omega)
theorem mk92 (w : World) : (Instr.makeChan 92 (.int .i64 0)).run Try.prog w = .ok (.chan (some w.heap.size)) (w.alloc (.chan 0 #[] false 0 0 false)) := by
  obtain ⟨i, hi, hb⟩ := Option.map_eq_some_iff.1 Try.info83
  simpa using Go.Conc.run_makeChan (P := Try.prog) (w := w) Try.underlying92 hi .i64 0 (by omega) (by rw [hb]; omega)

/-- A Writer as it is made, ahead of its pages. -/
structure New1 (B : Nat) (given written : Int) (rb wb tb fb sb : Nat) (page spare : Value) (w w' : World) : Prop where
  writer : w'.heap[wb]? = some (.cells (wcells page spare 0 given given tb fb sb rb) 95 (0, 0))
  chan : w'.heap[tb]? = some (.chan 4 #[] false 0 0 false)
  runner : ∃ z2 : Array Value, w'.heap[rb]? = some (.cells z2 89 (0, 0)) ∧ z2[220]? = some (.int .i64 written)
  below : Below B w w'
  bw : B ≤ wb
  bt : B ≤ tb
  br : B ≤ rb

theorem at3_0 (w : World) (o1 o2 o3 : Obj) : (((w.alloc o1).alloc o2).alloc o3).heap[w.heap.size]? = some o1 := by rw [old_at _ (by simp; omega), old_at _ (by simp), new_at]
theorem at3_1 (w : World) (o1 o2 o3 : Obj) : (((w.alloc o1).alloc o2).alloc o3).heap[w.heap.size + 1]? = some o2 := by
  rw [old_at _ (by simp)]
  simpa using new_at (w.alloc o1) o2
theorem at3_2 (w : World) (o1 o2 o3 : Obj) : (((w.alloc o1).alloc o2).alloc o3).heap[w.heap.size + 1 + 1]? = some o3 := by
  simpa using new_at ((w.alloc o1).alloc o2) o3

theorem new1_of {w w2 : World} {given written : Int} (r2 : ∃ z2 : Array Value, w2.heap[w.heap.size]? = some (.cells z2 89 (0, 0)) ∧ z2[220]? = some (.int .i64 written)) (s2 : w2.heap.size = w.heap.size + 2) (b2 : Below w.heap.size w w2)
    (o1 o2 o3 : Obj) (tb fb sb : Nat) (hb : w2.heap.size ≤ tb) (ht : (((w2.alloc o1).alloc o2).alloc o3).heap[tb]? = some (.chan 4 #[] false 0 0 false)) :
    New1 w.heap.size given written w.heap.size (w2.heap.size + 1 + 1 + 1) tb fb sb (.pointer none) (.slice none 0 0) w
      ((((w2.alloc o1).alloc o2).alloc o3).alloc (.cells (wcells (.pointer none) (.slice none 0 0) 0 given given tb fb sb w.heap.size) 95)).drew := by
  have htl := lt_of ht
  refine ⟨?_, ?_, ?_, ?_, by omega, by omega, Nat.le_refl _⟩
  · have e := new_at (((w2.alloc o1).alloc o2).alloc o3) (.cells (wcells (.pointer none) (.slice none 0 0) 0 given given tb fb sb w.heap.size) 95)
    rwa [show (((w2.alloc o1).alloc o2).alloc o3).heap.size = w2.heap.size + 1 + 1 + 1 from by simp] at e
  · exact (old_at _ htl).trans ht
  · obtain ⟨z2, h1, h2⟩ := r2
    refine ⟨z2, ?_, h2⟩
    exact (old_at _ (by simp; omega)).trans ((old_at _ (by simp; omega)).trans ((old_at _ (by simp; omega)).trans ((old_at _ (by omega)).trans h1)))
  · exact ((((b2.alloc (by omega) _).alloc (by simp; omega) _).alloc (by simp; omega) _).alloc (by simp; omega) _).drew

/-- A page as 'new' makes it. -/
def page0 : Array Value := #[.slice none 0 0, .slice none 0 0, .slice none 0 0, .nilIface]
def ptr (p : Nat) : Value := .pointer (some ⟨p, 0, none⟩)

/-- The spare pages. -/
structure Pages (B : Nat) (w : World) (spare : Value) (pgs : List Nat) : Prop where
  row : w.ownsRow B 29 1 spare pgs.length (pgs.map ptr)
  nodup : pgs.Nodup
  each : ∀ p, p ∈ pgs → B ≤ p ∧ w.heap[p]? = some (.cells page0 99 (0, 0))

theorem news2 (w : World) (o : Obj) (x : Value) (t : TypeId) : ∀ j u, [x][j]? = some u → ((w.alloc o).alloc (.cells #[x] t)).cell? ((⟨w.heap.size + 1, 0, none⟩ : Addr).add j) = some u := by
  simpa using World.news_of_block (new_at (w.alloc o) (.cells #[x] t))
/-- A block that holds something else is not the row. -/
theorem ownBlock_ne {w : World} {base : Nat} {e : TypeId} {size : Nat} {v : Value} {n : Nat} {xs : List Value} (h : w.ownsRow base e size v n xs) {k : Nat} {o : Obj} (hk : w.heap[k]? = some o) (hne : ∀ cur, o ≠ .cells cur e (0, 0)) : some k ≠ v.ownBlock := by
  intro he
  rcases h.2 with ⟨rfl, _⟩ | ⟨g, cap, cur, rfl, _, hg, _⟩
  · simp [Value.ownBlock] at he
  · simp only [Value.ownBlock, Option.some.injEq] at he
    subst he
    rw [hk] at hg
    exact hne cur (Option.some.inj hg)

theorem setCell1 (page spare u : Value) (infl given handed : Int) (tb fb sb rb : Nat) : (wcells page spare infl given handed tb fb sb rb).setIfInBounds 1 u = wcells page u infl given handed tb fb sb rb := rfl
theorem setCell0 (page spare u : Value) (infl given handed : Int) (tb fb sb rb : Nat) : (wcells page spare infl given handed tb fb sb rb).setIfInBounds 0 u = wcells u spare infl given handed tb fb sb rb := rfl

theorem keptA {B : Nat} {spV : Value} {wr w1 : World} {pgs : List Nat} (hP : Pages B wr spV pgs) {o1 o2 : Obj}
    (hg : ((wr.alloc o1).alloc o2).grownBy w1 spV.ownBlock) {k : Nat} {o : Obj} (hk : wr.heap[k]? = some o) (hne : ∀ cur, o ≠ .cells cur 29 (0, 0)) : w1.heap[k]? = some o := by
  have hlt := lt_of hk
  rw [hg.block k (by simp; omega) (ownBlock_ne hP.row hk hne), old_at _ (by simp; omega), old_at _ hlt, hk]

theorem pages_step {B : Nat} {given written : Int} {rb wb tb fb sb : Nat} {page spV : Value} {w wr w1 : World} {pgs : List Nat} (hB : B ≤ wr.heap.size) (hN : New1 B given written rb wb tb fb sb page spV w wr) (hP : Pages B wr spV pgs)
    {g cap : Nat} (hown : w1.ownsRow B 29 1 (.slice (some ⟨g, 0, none⟩) (pgs.length + 1) cap) (pgs.length + 1) (pgs.map ptr ++ [.pointer (some ⟨wr.heap.size, 0, none⟩)]))
    (hg : ((wr.alloc (.cells page0 99)).alloc (.cells #[.pointer (some ⟨wr.heap.size, 0, none⟩)] 29)).grownBy w1 spV.ownBlock) :
    New1 B given written rb wb tb fb sb page (.slice (some ⟨g, 0, none⟩) (pgs.length + 1) cap) w (w1.setCell ⟨wb, 1, none⟩ (.slice (some ⟨g, 0, none⟩) (pgs.length + 1) cap)) ∧
      Pages B (w1.setCell ⟨wb, 1, none⟩ (.slice (some ⟨g, 0, none⟩) (pgs.length + 1) cap)) (.slice (some ⟨g, 0, none⟩) (pgs.length + 1) cap) (pgs ++ [wr.heap.size]) := by
  have hw := keptA hP hg hN.writer (by simp)
  have hpn : w1.heap[wr.heap.size]? = some (.cells page0 99 (0, 0)) := by
    have hx : ((wr.alloc (.cells page0 99)).alloc (.cells #[.pointer (some ⟨wr.heap.size, 0, none⟩)] 29)).heap[wr.heap.size]? = some (.cells page0 99 (0, 0)) := by
      rw [old_at _ (by simp), new_at]
    rw [hg.block _ (by simp; omega) (ownBlock_ne ((hP.row.alloc _).alloc _) hx (by simp)), hx]
  have other : ∀ {k : Nat} {o : Obj}, w1.heap[k]? = some o → (∀ cs, o ≠ .cells cs 95 (0, 0)) → (w1.setCell ⟨wb, 1, none⟩ (.slice (some ⟨g, 0, none⟩) (pgs.length + 1) cap)).heap[k]? = some o := fun {k o} h hne => by
    rw [set_other]
    · exact h
    · rintro rfl
      rw [h] at hw
      exact hne _ (Option.some.inj hw)
  refine ⟨⟨?_, ?_, ?_, ?_, hN.bw, hN.bt, hN.br⟩, ⟨?_, ?_, ?_⟩⟩
  · rw [set_same hw, setCell1]
  · exact other (keptA hP hg hN.chan (by simp)) (by simp)
  · obtain ⟨z2, h1, h2⟩ := hN.runner
    exact ⟨z2, other (keptA hP hg h1 (by simp)) (by simp), h2⟩
  · refine Below.setCell (Below.grown ((hN.below.alloc hB _).alloc (by simp; omega) _) hg (by simp; omega) fun k hk => ?_) hN.bw _
    rcases hP.row.2 with ⟨rfl, _⟩ | ⟨g', _, _, rfl, h2, _⟩
    · simp [Value.ownBlock] at hk
    · simp [Value.ownBlock] at hk; omega
  · simp only [List.length_append, List.length_cons, List.length_nil, Nat.zero_add, List.map_append, List.map_cons, List.map_nil]
    exact ownsRow_setCell_other hown (fun e => ownBlock_ne hown hw (by simp) e.symm) _
  · rw [List.nodup_append]
    refine ⟨hP.nodup, by simp, fun a ha b hb => ?_⟩
    simp at hb
    subst hb
    have := lt_of (hP.each a ha).2
    omega
  · intro p hp
    rcases List.mem_append.1 hp with hp | hp
    · exact ⟨(hP.each p hp).1, other (keptA hP hg (hP.each p hp).2 (by simp)) (by simp)⟩
    · simp at hp
      subst hp
      exact ⟨hB, other hpn (by simp)⟩

/-- A Writer's state: the page that it fills, its spare pages, its counts, its channel, its runner's count. -/
structure WState (B : Nat) (w : World) (wb pb spb scap : Nat) (spares : List Nat) (infl given handed : Int) (tb fb sb rb : Nat) (buf : Array Value) (sent recv : Nat) (written : Int) : Prop where
  writer : w.heap[wb]? = some (.cells (wcells (ptr pb) (.slice (some ⟨spb, 0, none⟩) spares.length scap) infl given handed tb fb sb rb) 95 (0, 0))
  chan : w.heap[tb]? = some (.chan 4 buf false sent recv false)
  runner : ∃ z2 : Array Value, w.heap[rb]? = some (.cells z2 89 (0, 0)) ∧ z2[220]? = some (.int .i64 written)
  row : ∃ cur : Array Value, w.heap[spb]? = some (.cells cur 29 (0, 0)) ∧ ∀ (i p : Nat), spares[i]? = some p → cur[i]? = some (ptr p)
  room : spares.length ≤ scap
  each : ∀ p, p ∈ spares → B ≤ p ∧ w.heap[p]? = some (.cells page0 99 (0, 0))
  nodup : (pb :: spares).Nodup
  bounds : B ≤ wb ∧ B ≤ tb ∧ B ≤ rb ∧ B ≤ spb ∧ B ≤ pb

theorem four {l : List Nat} (h : l.length = 4) : ∃ a b c d, l = [a, b, c, d] := by
  match l, h with
  | [a, b, c, d], _ => exact ⟨a, b, c, d, rfl⟩

theorem pages_last {B : Nat} {w : World} {spb cap p0 p1 p2 p3 : Nat} (hP : Pages B w (.slice (some ⟨spb, 0, none⟩) 4 cap) [p0, p1, p2, p3]) : 3 + 1 ≤ cap ∧ w.cell? ⟨spb, 3, none⟩ = some (ptr p3) := by
  refine ⟨?_, ?_⟩
  · rcases hP.row.2 with ⟨h, _⟩ | ⟨g, cap', cur, h, hb, hg, hle, _, hcs, htk⟩
    · simp at h
    · simp only [Value.slice.injEq, Option.some.injEq, Addr.mk.injEq, and_true] at h
      obtain ⟨rfl, -, rfl⟩ := h
      simpa using hle
  · have := hP.row.cellAt 3 (by simp)
    simpa using this

/-- What NewWriter leaves. -/
theorem wstate_of {B : Nat} {given written : Int} {rb wb tb fb sb spb cap p0 p1 p2 p3 : Nat} {w wr w1 : World} (hN : New1 B given written rb wb tb fb sb (.pointer none) (.slice (some ⟨spb, 0, none⟩) 4 cap) w wr)
    (hP : Pages B wr (.slice (some ⟨spb, 0, none⟩) 4 cap) [p0, p1, p2, p3]) (hfr : Fr [wb] wr w1)
    (hw1 : w1.heap[wb]? = some (.cells (wcells (.pointer none) (.slice (some ⟨spb, 0, none⟩) 3 cap) 0 given given tb fb sb rb) 95 (0, 0))) :
    WState B (w1.setCell ⟨wb, 0, none⟩ (ptr p3)) wb p3 spb cap [p0, p1, p2] 0 given given tb fb sb rb #[] 0 0 written ∧ (w1.setCell ⟨wb, 0, none⟩ (ptr p3)).heap[p3]? = some (.cells page0 99 (0, 0)) ∧ Below B w (w1.setCell ⟨wb, 0, none⟩ (ptr p3)) := by
  have kept : ∀ {k : Nat} {o : Obj}, wr.heap[k]? = some o → (∀ cs, o ≠ .cells cs 95 (0, 0)) → (w1.setCell ⟨wb, 0, none⟩ (ptr p3)).heap[k]? = some o := fun {k o} h hne => by
    have hk : k ≠ wb := by
      rintro rfl
      have := hN.writer
      rw [h] at this
      exact hne _ (Option.some.inj this)
    rw [set_other _ _ hk, hfr.block _ (lt_of h) (by simpa using hk)]
    exact h
  rcases hP.row.2 with ⟨h, _⟩ | ⟨g, cap', cur, h, hb, hg, hle, _, hcs, htk⟩
  · simp at h
  simp only [Value.slice.injEq, Option.some.injEq, Addr.mk.injEq, and_true] at h
  obtain ⟨rfl, -, rfl⟩ := h
  have hin : B ≤ wr.heap.size := Nat.le_of_lt (Nat.lt_of_le_of_lt hb (lt_of hg))
  refine ⟨⟨?_, kept hN.chan (by simp), ?_, ⟨cur, kept hg (by simp), ?_⟩, ?_, ?_, ?_, ?_⟩, kept (hP.each p3 (by simp)).2 (by simp), ?_⟩
  · rw [set_same hw1, setCell0]; rfl
  · obtain ⟨z2, h1, h2⟩ := hN.runner
    exact ⟨z2, kept h1 (by simp), h2⟩
  · intro i p hi
    have h4 : i < 3 := by
      rcases Nat.lt_or_ge i 3 with h | h
      · exact h
      · rw [List.getElem?_eq_none (by simpa using h)] at hi; cases hi
    have e : (cur.toList.take (4 * 1))[i]? = ([p0, p1, p2, p3].map ptr)[i]? := by
      simp only [List.length_cons, List.length_nil] at htk
      rw [htk]
    rw [List.getElem?_take, if_pos (by omega)] at e
    rw [← Array.getElem?_toList, e]
    match i, h4 with
    | 0, _ => simpa using congrArg ptr (by simpa using hi)
    | 1, _ => simpa using congrArg ptr (by simpa using hi)
    | 2, _ => simpa using congrArg ptr (by simpa using hi)
  · simp only [List.length_cons, List.length_nil] at hle ⊢; omega
  · intro p hp
    have hm : p ∈ [p0, p1, p2, p3] := by simp at hp ⊢; omega
    exact ⟨(hP.each p hm).1, kept (hP.each p hm).2 (by simp)⟩
  · have := hP.nodup
    simp at this ⊢
    omega
  · exact ⟨hN.bw, hN.bt, hN.br, hb, (hP.each p3 (by simp)).1⟩
  · exact (hN.below.trans (hfr.below hin (by simpa using hN.bw))).setCell hN.bw _

set_option maxRecDepth 100000 in
set_option maxHeartbeats 1000000 in
theorem new10 (given written : Int) (w : World) :
    Calls Try.prog 10 #[.int .i64 given, .int .i64 written] w fun e w' => ∃ wb p0 p1 p2 p3 spb cap tb fb sb rb, e = .returned (ptr wb) ∧ WState w.heap.size w' wb p3 spb cap [p0, p1, p2] 0 given given tb fb sb rb #[] 0 0 written ∧ w'.heap[p3]? = some (.cells page0 99 (0, 0)) ∧ Below w.heap.size w w' := by
  obtain ⟨z, hz, hzs⟩ := built89
  obtain ⟨y, hy⟩ := make56
  have HZ := hide hz; clear hz
  have m1 := mk91
  have m2 := mk92
  go_enter Try.func10, Try.ntmps10
  go_wp2_with (refine wpList_build89 HZ.out rfl rfl ?_)
  generalize hw1 : (w.alloc (.cells (z.setIfInBounds 81 (.slice (some ⟨w.heap.size + 1, 0, none⟩) 0 30)) 89)).alloc (.cells y 136) = w1
  have r1 : w1.heap[w.heap.size]? = some (.cells (z.setIfInBounds 81 (.slice (some ⟨w.heap.size + 1, 0, none⟩) 0 30)) 89 (0, 0)) := by rw [← hw1, old_at _ (by simp), new_at]
  have s1 : w1.heap.size = w.heap.size + 2 := by rw [← hw1]; simp
  have b1 : Below w.heap.size w w1 := by rw [← hw1]; exact ((Below.refl _ _).alloc (Nat.le_refl _) _).alloc (by simp) _
  clear hw1 hy
  refine (store28 w.heap.size 220 written _ w1 ((cell_of r1 220).trans (Array.getElem?_eq_getElem (by simp [hzs]))) (free_of r1 220)).mono ?_
  rintro e w2' ⟨rfl, rfl⟩
  generalize hw2 : w1.setCell ⟨w.heap.size, 220, none⟩ (.int .i64 written) = w2
  have r2 : ∃ z2 : Array Value, w2.heap[w.heap.size]? = some (.cells z2 89 (0, 0)) ∧ z2[220]? = some (.int .i64 written) := ⟨_, by rw [← hw2]; exact set_same r1 _ _, by simp [hzs]⟩
  have s2 : w2.heap.size = w.heap.size + 2 := by rw [← hw2]; simpa using s1
  have b2 : Below w.heap.size w w2 := by rw [← hw2]; exact b1.setCell (Nat.le_refl _) _
  clear hw2 r1 s1 b1
  have R2 := hide r2; have S2 := hide s2; clear r2 s2
  go_wp2
  go_cut [6] (fun s wc => ∃ wb tb fb sb, s = .pointer (some ⟨wb, 0, none⟩) ∧ New1 w.heap.size given written w.heap.size wb tb fb sb (.pointer none) (.slice none 0 0) w wc)
  case first =>
    go_region
    all_goals go_wp2
    all_goals go_meet
    all_goals (refine ⟨_, _, _, _, rfl, new1_of R2.out S2.out b2 _ _ _ _ _ _ ?_ ?_⟩)
    all_goals first | exact at3_0 _ _ _ _ | exact at3_1 _ _ _ _ | exact at3_2 _ _ _ _ | exact Nat.le_refl _ | omega
  case rest =>
    obtain ⟨wb, tb, fb, sb, rfl, hN⟩ := hcut
    clear m1 m2 R2 S2 b2 HZ
    go_wp2
    go_loopw [28] (fun i wr => ∃ (k : Nat) (spV : Value) (pgs : List Nat), k ≤ 4 ∧ i = .int .i64 k ∧ pgs.length = k ∧ New1 w.heap.size given written w.heap.size wb tb fb sb (.pointer none) spV w wr ∧ Pages w.heap.size wr spV pgs) (fun i _ => 4 - (intOf i).toNat)
    case atStart => exact ⟨0, _, [], by omega, rfl, rfl, hN, ⟨World.ownsRow_nil _ _ _ _, List.nodup_nil, by simp⟩⟩
    case round =>
      obtain ⟨k, spV, pgs, hk, rfl, rfl, hN1, hP⟩ := hrel
      have hc1 : wr.cell? ⟨wb, 1, none⟩ = some spV := (cell_of hN1.writer 1).trans rfl
      have hf1 := free_of hN1.writer 1
      obtain ⟨i0, hi, hz0, hz1, hz2⟩ := info_parts Try.info29
      have hB : w.heap.size ≤ wr.heap.size := hN1.below.size
      have hP1 := hide hP; have hN2 := hide hN1
      by_cases hlt : pgs.length < 4
      · go_wp2_with (at_builtin; refine wpList_append_lies _ rfl (.tmp 34) (.tmp 36) 93 rfl w.heap.size 29 i0 (.pointer none) 1 8 Try.underlying93 hi hz0 hz1 hz2 rfl (by omega) spV pgs.length _ rfl ((hP1.out.row.alloc _).alloc _) ⟨wr.heap.size + 1, 0, none⟩ 1 1 [.pointer (some ⟨wr.heap.size, 0, none⟩)] rfl rfl (news2 _ _ _ _) (by simp [Value.oneCell']) (by omega) (by unfold maxLen; omega) (by omega) (by simp; omega) (wr.heap.size + 2) (by simp) ?_; intro g cap w1 hown1 hgrow hat hglt; have hw1 := keptA hP1.out hgrow hN2.out.writer (by simp); have hc1 : w1.cell? ⟨wb, 1, none⟩ = some spV := (cell_of hw1 1).trans rfl; have hf1 := free_of hw1 1; have RR := hide (pages_step hB hN2.out hP1.out hown1 hgrow); clear hw1 hgrow hown1 hat)
        go_roundw
        case rel => exact ⟨pgs.length + 1, _, _, by omega, by go_num, by simp, RR.out.1, RR.out.2⟩
        case measure => simp [intOf]; omega
      · obtain ⟨p0, p1, p2, p3, rfl⟩ := four (show pgs.length = 4 by omega)
        obtain ⟨spb, cap, rfl, hb1, hb2⟩ := hP.row.form (by simp)
        clear hP hN1 hN hc1 hf1
        simp only [List.length_cons, List.length_nil, Nat.zero_add, Nat.reduceAdd] at *
        go_wp2_with fail
        refine (take29 wb spb 3 cap (.pointer none) (.pointer (some ⟨p3, 0, none⟩)) 0 given given tb fb sb w.heap.size (by omega) (pages_last hP1.out).1 wr hN2.out.writer (pages_last hP1.out).2).mono ?_
        rintro e w1 ⟨rfl, hfr, hsz, hw1⟩
        have RR := hide (wstate_of hN2.out hP1.out hfr hw1)
        have hc0 : w1.cell? ⟨wb, 0, none⟩ = some (.pointer none) := (cell_of hw1 0).trans rfl
        have hf0 := free_of hw1 0
        clear hw1 hfr hsz
        go_wp2
        go_ret
        exact ⟨wb, p0, p1, p2, p3, spb, cap, tb, fb, sb, w.heap.size, rfl, RR.out⟩
end Go.Proofs.Qxb6605831a

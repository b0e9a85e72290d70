import Derived.Test.Qxb6605831aSend
import Derived.Test.Qxb6605831aWrite
namespace Go.Proofs.Qxb6605831a
open Go.RowKit Go.Conc

theorem departs31 : Region.departs (opsOf Try.f31) = false := by kernel_rfl
theorem size31 : (opsOf Try.f31).size = 9 := by kernel_rfl
theorem sched31 (m : Bool) (t : Nat) : Region.schedule m (opsOf Try.f31) t = Region.linearise.go .any (opsOf Try.f31) 9 t #[false, false, false, false, false, false, false, false, false] [] := by
  simp only [Region.schedule, departs31, Bool.not_false, Bool.or_true, if_true, Region.linearise, size31]
  rfl

theorem enter31 (x : Value) : Frame.enter Try.prog 31 #[x] .normal = (base 31).at ⟨#[x, undef, undef, undef, undef, undef, undef, undef, undef, undef, undef, undef, undef, undef, undef, undef, undef, undef, undef, undef, undef, undef, undef, undef, undef, undef, undef, undef, undef], []⟩ [.code (.seq (.region 0 (opsOf Try.f31) true) (restOf Try.f31))] := by
  have e := enter_at (P := Try.prog) (f := 31) #[x] Try.func31 body31
  have e2 : (#[x] ++ Array.replicate (Try.f31.ntmps - (#[x] : Array Value).size) undef) = #[x, undef, undef, undef, undef, undef, undef, undef, undef, undef, undef, undef, undef, undef, undef, undef, undef, undef, undef, undef, undef, undef, undef, undef, undef, undef, undef, undef, undef] := by
    simp [Try.ntmps31]
  exact e.trans (congrArg (fun t : Array Value => (base 31).at ⟨t, []⟩ [.code (.seq (.region 0 (opsOf Try.f31) true) (restOf Try.f31))]) e2)

/-- handOver's beginning: the page is in the channel. -/
theorem begin31 (wb tb : Nat) (pv : Value) (cs : List Frame) (w : World) (h6 : w.cell? ⟨wb, 6, none⟩ = some (.chan (some tb))) (h0 : w.cell? ⟨wb, 0, none⟩ = some pv)
    {cap s r : Nat} {buf : Array Value} (hc : w.heap[tb]? = some (.chan cap buf false s r false)) (hroom : buf.size < cap) :
    Steps Try.prog (lone (Frame.enter Try.prog 31 #[.pointer (some ⟨wb, 0, none⟩)] .normal) cs w)
      (lone ((base 31).at ⟨#[.pointer (some ⟨wb, 0, none⟩), undef, .pointer (some ⟨wb, 0, none⟩), .pointer (some ⟨wb, 0, none⟩), .pointer (some ⟨wb, 6, none⟩), .chan (some tb), .pointer (some ⟨wb, 0, none⟩), .pointer (some ⟨wb, 0, none⟩), .pointer (some ⟨wb, 0, none⟩), pv, undef, undef, undef, undef, undef, undef, undef, undef, undef, undef, undef, undef, undef, undef, undef, undef, undef, undef, undef], []⟩ [.code (restOf Try.f31)]) cs (w.drew.setChan tb cap (buf.push pv) false (s + 1) r false)) := by
  have any := any31 wb tb pv (base 31) [.code (restOf Try.f31)] cs w.drew (by simp [base]) h6 h0 hc hroom (fun a w' => a = ⟨#[.pointer (some ⟨wb, 0, none⟩), undef, .pointer (some ⟨wb, 0, none⟩), .pointer (some ⟨wb, 0, none⟩), .pointer (some ⟨wb, 6, none⟩), .chan (some tb), .pointer (some ⟨wb, 0, none⟩), .pointer (some ⟨wb, 0, none⟩), .pointer (some ⟨wb, 0, none⟩), pv, undef, undef, undef, undef, undef, undef, undef, undef, undef, undef, undef, undef, undef, undef, undef, undef, undef, undef, undef], []⟩ ∧ w' = w.drew.setChan tb cap (buf.push pv) false (s + 1) r false) ⟨rfl, rfl⟩
  obtain ⟨a', w', hF, hst⟩ := anyS_sound 9 (w.tape w.drawn (.order (base 31).fn 0)) _ _ _ any
  obtain ⟨e1, e2⟩ := hF
  rw [e1, e2, ← sched31 (Try.prog.follows .mixedOrders)] at hst
  rw [enter31]
  exact Steps.head step_seq (Steps.head step_region_draw (Steps.trans hst (Steps.one step_region_end)))

theorem calls31 {x c : Code} {R : Ending → World → Prop} (hb : Try.f31.body = some (.seq x c)) (wb tb : Nat) (pv : Value) (w : World) (h6 : w.cell? ⟨wb, 6, none⟩ = some (.chan (some tb))) (h0 : w.cell? ⟨wb, 0, none⟩ = some pv)
    {cap s r : Nat} {buf : Array Value} (hc : w.heap[tb]? = some (.chan cap buf false s r false)) (hroom : buf.size < cap)
    (hw : c.wp Try.prog (bodyPost Try.prog Try.f31 R) ⟨#[.pointer (some ⟨wb, 0, none⟩), undef, .pointer (some ⟨wb, 0, none⟩), .pointer (some ⟨wb, 0, none⟩), .pointer (some ⟨wb, 6, none⟩), .chan (some tb), .pointer (some ⟨wb, 0, none⟩), .pointer (some ⟨wb, 0, none⟩), .pointer (some ⟨wb, 0, none⟩), pv, undef, undef, undef, undef, undef, undef, undef, undef, undef, undef, undef, undef, undef, undef, undef, undef, undef, undef, undef], []⟩ (w.drew.setChan tb cap (buf.push pv) false (s + 1) r false)) : Calls Try.prog 31 #[.pointer (some ⟨wb, 0, none⟩)] w R := by
  have e : c = restOf Try.f31 := by simp [restOf, hb]
  subst e
  exact calls_after Try.func31 fun cs => ⟨_, _, begin31 wb tb pv cs w h6 h0 hc hroom, hw⟩

theorem setChan_same (w : World) (c cap : Nat) (buf : Array Value) (cl : Bool) (s r : Nat) (tm : Bool) (h : c < w.heap.size) : (w.setChan c cap buf cl s r tm).heap[c]? = some (.chan cap buf cl s r tm) := heap_setChan w c cap buf cl s r tm h
theorem setChan_far (w : World) (c c' cap : Nat) (buf : Array Value) (closed : Bool) (s r : Nat) (tm : Bool) (h : c' ≠ c) : (w.setChan c cap buf closed s r tm).heap[c']? = w.heap[c']? := by
  simp [World.setChan, Array.getElem?_setIfInBounds_ne (Ne.symm h)]
theorem Fr.setChan {X : List Nat} {a w : World} (h : Fr X a w) {c : Nat} (hc : c ∈ X) (cap : Nat) (buf : Array Value) (cl : Bool) (s r : Nat) (tm : Bool) : Fr X a (w.setChan c cap buf cl s r tm) :=
  h.trans ⟨rfl, rfl, rfl, by simp [World.setChan], fun k _ hx => setChan_far _ _ _ _ _ _ _ _ _ (fun e => hx (by rw [e]; exact hc))⟩

theorem setCell2 (page spare : Value) (infl given handed x : Int) (tb fb sb rb : Nat) : (wcells page spare infl given handed tb fb sb rb).setIfInBounds 2 (.int .i64 x) = wcells page spare x given handed tb fb sb rb := rfl
theorem setCell4 (page spare : Value) (infl given handed x : Int) (tb fb sb rb : Nat) : (wcells page spare infl given handed tb fb sb rb).setIfInBounds 4 (.int .i64 x) = wcells page spare infl given x tb fb sb rb := rfl

/-- handOver: the page goes into the channel; the last spare page is taken up. -/
theorem hand31 (B wb pb spb scap q : Nat) (spares : List Nat) (infl given handed : Int) (tb fb sb rb : Nat) (buf : Array Value) (sent recv : Nat) (written : Int) (w : World) (hi : 0 ≤ infl ∧ infl ≤ 100) (hsp : spares.length + 1 ≤ 100) (hbuf : buf.size < 4)
    (hW : WState B w wb pb spb scap (spares ++ [q]) infl given handed tb fb sb rb buf sent recv written) :
    Calls Try.prog 31 #[ptr wb] w fun e w' => e = .returned (.tuple #[]) ∧ WState B w' wb q spb scap spares (infl + 1) given given tb fb sb rb (buf.push (ptr pb)) (sent + 1) recv written ∧ Fr [wb, tb] w w' ∧ w'.heap[q]? = some (.cells page0 99 (0, 0)) := by
  have HW := hide hW
  have hnt : tb ≠ wb := by
    rintro rfl
    have := hW.chan
    rw [hW.writer] at this
    simp at this
  have c0 : w.cell? ⟨wb, 0, none⟩ = some (ptr pb) := (cell_of hW.writer 0).trans rfl
  have c6 : w.cell? ⟨wb, 6, none⟩ = some (.chan (some tb)) := (cell_of hW.writer 6).trans rfl
  refine calls31 rfl wb tb (ptr pb) w c6 c0 hW.chan hbuf ?_
  generalize hw1 : w.drew.setChan tb 4 (buf.push (ptr pb)) false (sent + 1) recv false = w1
  have kw : w1.heap[wb]? = some (.cells (wcells (ptr pb) (.slice (some ⟨spb, 0, none⟩) (spares ++ [q]).length scap) infl given handed tb fb sb rb) 95 (0, 0)) := by
    rw [← hw1, setChan_far _ _ _ _ _ _ _ _ _ (Ne.symm hnt)]; exact hW.writer
  have kc : w1.heap[tb]? = some (.chan 4 (buf.push (ptr pb)) false (sent + 1) recv false) := by
    rw [← hw1]; exact setChan_same _ _ _ _ _ _ _ _ (lt_of hW.chan)
  have kf : Fr [wb, tb] w w1 := by
    rw [← hw1]; exact Fr.setChan ((Fr.refl _ _).drew) (by simp) _ _ _ _ _ _
  have d2 : w1.cell? ⟨wb, 2, none⟩ = some (.int .i64 infl) := (cell_of kw 2).trans rfl
  have d3 : w1.cell? ⟨wb, 3, none⟩ = some (.int .i64 given) := (cell_of kw 3).trans rfl
  have d4 : w1.cell? ⟨wb, 4, none⟩ = some (.int .i64 handed) := (cell_of kw 4).trans rfl
  have ff := free_of kw
  obtain ⟨hi0, hi1⟩ := hi
  have KW := hide kw; have KC := hide kc; have KF := hide kf
  clear kw kc kf hW c0 c6 hw1
  go_wp2_with fail
  generalize hw2 : (w1.setCell ⟨wb, 2, none⟩ (.int .i64 (infl + 1))).setCell ⟨wb, 4, none⟩ (.int .i64 given) = w2
  have kw2 : w2.heap[wb]? = some (.cells (wcells (ptr pb) (.slice (some ⟨spb, 0, none⟩) (spares.length + 1) scap) (infl + 1) given given tb fb sb rb) 95 (0, 0)) := by
    rw [← hw2, set_same (set_same KW.out _ _), setCell2, setCell4, List.length_append, List.length_singleton]
  have kf2 : Fr [wb, tb] w w2 := by
    rw [← hw2]; exact (KF.out.setCell (by simp) _ _).setCell (by simp) _ _
  have kc2 : w2.heap[tb]? = some (.chan 4 (buf.push (ptr pb)) false (sent + 1) recv false) := by
    rw [← hw2, set_other _ _ hnt, set_other _ _ hnt]; exact KC.out
  have far : ∀ (k : Nat) (cs : Array Value) (t : TypeId), w.heap[k]? = some (.cells cs t (0, 0)) → t ≠ 95 → w2.heap[k]? = some (.cells cs t (0, 0)) := fun k cs t h ht => by
    rw [kf2.block k (lt_of h) (by
      simp
      refine ⟨ne_of_types h HW.out.writer ht, ?_⟩
      rintro rfl
      have := HW.out.chan
      rw [h] at this
      simp at this)]
    exact h
  obtain ⟨cur, hr1, hr2⟩ := HW.out.row
  have hq : w2.cell? ⟨spb, spares.length, none⟩ = some (.pointer (some ⟨q, 0, none⟩)) := by
    rw [cell_of (far _ _ _ hr1 (by decide))]
    exact hr2 spares.length q (by simp)
  have HFAR := hide far; have KF2 := hide kf2; have KC2 := hide kc2; have HR1 := hide hr1; have HR2 := hide hr2
  have hroom : spares.length + 1 ≤ scap := by have := HW.out.room; simpa using this
  clear far kf2 kc2 hr1 hr2 hw2 KW KC KF d2 d3 d4 ff
  refine (take29 wb spb spares.length scap (ptr pb) (.pointer (some ⟨q, 0, none⟩)) (infl + 1) given given tb fb sb rb hsp hroom w2 kw2 hq).mono ?_
  rintro e w3 ⟨rfl, hfr, hsz, hw3⟩
  have c0 : w3.cell? ⟨wb, 0, none⟩ = some (ptr pb) := (cell_of hw3 0).trans rfl
  have f0 := free_of hw3 0
  have HW3 := hide hw3; have HFR := hide hfr
  clear hw3 hfr kw2 hq hsz
  go_wp2
  go_end0
  have hfr4 : Fr [wb, tb] w (w3.setCell ⟨wb, 0, none⟩ (.pointer (some ⟨q, 0, none⟩))) := (KF2.out.trans (HFR.out.mono (by simp +contextual))).setCell (by simp) _ _
  have far4 : ∀ {k : Nat} {o : Obj}, w2.heap[k]? = some o → k ≠ wb → (w3.setCell ⟨wb, 0, none⟩ (.pointer (some ⟨q, 0, none⟩))).heap[k]? = some o := fun {k o} h hk => by
    rw [set_other _ _ hk, HFR.out.block k (lt_of h) (by simpa using hk)]
    exact h
  have nw : ∀ {k : Nat} {cs : Array Value} {t : TypeId}, w.heap[k]? = some (.cells cs t (0, 0)) → t ≠ 95 → k ≠ wb := fun h ht => ne_of_types h HW.out.writer ht
  refine ⟨rfl, ⟨?_, far4 KC2.out hnt, ?_, ⟨cur, far4 (HFAR.out _ _ _ HR1.out (by decide)) (nw HR1.out (by decide)), ?_⟩, by omega, ?_, ?_, ?_⟩, hfr4, far4 (HFAR.out _ _ _ (HW.out.each q (by simp)).2 (by decide)) (nw (HW.out.each q (by simp)).2 (by decide))⟩
  · rw [set_same HW3.out, setCell0]; rfl
  · obtain ⟨z2, h1, h2⟩ := HW.out.runner
    exact ⟨z2, far4 (HFAR.out _ _ _ h1 (by decide)) (nw h1 (by decide)), h2⟩
  · intro i p hi
    exact HR2.out i p (by rw [List.getElem?_append_left (by
      rcases Nat.lt_or_ge i spares.length with h | h
      · exact h
      · rw [List.getElem?_eq_none h] at hi; cases hi)]; exact hi)
  · intro p hp
    have := HW.out.each p (by simp [hp])
    exact ⟨this.1, far4 (HFAR.out _ _ _ this.2 (by decide)) (nw this.2 (by decide))⟩
  · have := HW.out.nodup
    rw [List.nodup_cons, List.nodup_append] at this
    rw [List.nodup_cons]
    refine ⟨fun hm => this.2.2.2 q hm q (by simp) rfl, this.2.1⟩
  · have := HW.out.bounds
    exact ⟨this.1, this.2.1, this.2.2.1, this.2.2.2.1, (HW.out.each q (by simp)).1⟩
end Go.Proofs.Qxb6605831a

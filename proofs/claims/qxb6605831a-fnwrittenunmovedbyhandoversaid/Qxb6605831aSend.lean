import Derived.Test.Qxb6605831aChan
namespace Go.Proofs.Qxb6605831a
open Go.RowKit Go.Conc

/-- A body that begins with a region: the region's operations; what follows it. -/
def opsOf (fn : Func) : Array Oper := match fn.body with | some (.seq (.region _ ops _) _) => ops | _ => #[]
def restOf (fn : Func) : Code := match fn.body with | some (.seq _ r) => r | _ => .skip
theorem body31 : Try.f31.body = some (.seq (.region 0 (opsOf Try.f31) true) (restOf Try.f31)) := rfl

theorem run_move {ρ : Operand → Value} {o : Oper} {x : Operand} (h : o.op = .move x) (w : World) : (execOp ρ o).run Try.prog w = .ok (.value (ρ x)) w := by
  simp [execOp, h]
theorem run_nilCheck {ρ : Operand → Value} {o : Oper} {x : Operand} {a : Addr} (h : o.op = .nilCheck x) (hx : ρ x = .pointer (some a)) (w : World) : (execOp ρ o).run Try.prog w = .ok (.value (.pointer (some a))) w := by
  simp [execOp, h, hx, go_sem]
theorem run_field6 {ρ : Operand → Value} {o : Oper} {x : Operand} {b : Nat} (h : o.op = .fieldAddr 95 x 6) (hx : ρ x = .pointer (some ⟨b, 0, none⟩)) (w : World) : (execOp ρ o).run Try.prog w = .ok (.value (.pointer (some ⟨b, 6, none⟩))) w := by
  simp [execOp, h, hx, go_sem]
theorem run_field0 {ρ : Operand → Value} {o : Oper} {x : Operand} {b : Nat} (h : o.op = .fieldAddr 95 x 0) (hx : ρ x = .pointer (some ⟨b, 0, none⟩)) (w : World) : (execOp ρ o).run Try.prog w = .ok (.value (.pointer (some ⟨b, 0, none⟩))) w := by
  simp [execOp, h, hx, go_sem]
theorem run_load91 {ρ : Operand → Value} {o : Oper} {x : Operand} {a : Addr} {v : Value} {w : World} (h : o.op = .load 91 x) (hx : ρ x = .pointer (some a)) (hc : w.cell? a = some v) : (execOp ρ o).run Try.prog w = .ok (.value v) w := by
  simp [execOp, h, hx, hc, go_sem]
theorem run_load29 {ρ : Operand → Value} {o : Oper} {x : Operand} {a : Addr} {v : Value} {w : World} (h : o.op = .load 29 x) (hx : ρ x = .pointer (some a)) (hc : w.cell? a = some v) : (execOp ρ o).run Try.prog w = .ok (.value v) w := by
  simp [execOp, h, hx, hc, go_sem]
theorem run_send {ρ : Operand → Value} {o : Oper} {x y : Operand} {c : Nat} {v : Value} (h : o.op = .send x y) (hx : ρ x = .chan (some c)) (hy : ρ y = v) (w : World) : (execOp ρ o).run Try.prog w = .ok (.comm #[scase c v (.tuple #[])] true .send) w := by
  simp [execOp, h, hx, hy, scase]
theorem op31_0 : ∃ o, (opsOf Try.f31)[0]? = some o ∧ o.guard = none ∧ o.dst = some 2 ∧ o.op = .move (.tmp 0) := ⟨_, rfl, rfl, rfl, rfl⟩
theorem op31_1 : ∃ o, (opsOf Try.f31)[1]? = some o ∧ o.guard = none ∧ o.dst = some 3 ∧ o.op = .nilCheck (.tmp 2) := ⟨_, rfl, rfl, rfl, rfl⟩
theorem op31_2 : ∃ o, (opsOf Try.f31)[2]? = some o ∧ o.guard = none ∧ o.dst = some 4 ∧ o.op = .fieldAddr 95 (.tmp 3) 6 := ⟨_, rfl, rfl, rfl, rfl⟩
theorem op31_3 : ∃ o, (opsOf Try.f31)[3]? = some o ∧ o.guard = none ∧ o.dst = some 5 ∧ o.op = .load 91 (.tmp 4) := ⟨_, rfl, rfl, rfl, rfl⟩
theorem op31_4 : ∃ o, (opsOf Try.f31)[4]? = some o ∧ o.guard = none ∧ o.dst = some 6 ∧ o.op = .move (.tmp 0) := ⟨_, rfl, rfl, rfl, rfl⟩
theorem op31_5 : ∃ o, (opsOf Try.f31)[5]? = some o ∧ o.guard = none ∧ o.dst = some 7 ∧ o.op = .nilCheck (.tmp 6) := ⟨_, rfl, rfl, rfl, rfl⟩
theorem op31_6 : ∃ o, (opsOf Try.f31)[6]? = some o ∧ o.guard = none ∧ o.dst = some 8 ∧ o.op = .fieldAddr 95 (.tmp 7) 0 := ⟨_, rfl, rfl, rfl, rfl⟩
theorem op31_7 : ∃ o, (opsOf Try.f31)[7]? = some o ∧ o.guard = none ∧ o.dst = some 9 ∧ o.op = .load 29 (.tmp 8) := ⟨_, rfl, rfl, rfl, rfl⟩
theorem op31_8 : ∃ o, (opsOf Try.f31)[8]? = some o ∧ o.guard = none ∧ o.dst = none ∧ o.op = .send (.tmp 5) (.tmp 9) := ⟨_, rfl, rfl, rfl, rfl⟩
theorem st31_0 (b : Frame) (k : List Item) (cs : List Frame) (a : Act) (w : World)  : StepTo Try.prog (opsOf Try.f31) b k cs 0 a w (a.put (some 2) (a.eval (.tmp 0))) w := by
  obtain ⟨o, h1, h2, h3, e⟩ := op31_0
  rw [← h3]
  exact stepTo_value h1 h2 (run_move e w)
theorem st31_1 (b : Frame) (k : List Item) (cs : List Frame) (a : Act) (w : World) (wb : Nat) (h : a.eval (.tmp 2) = .pointer (some ⟨wb, 0, none⟩)) : StepTo Try.prog (opsOf Try.f31) b k cs 1 a w (a.put (some 3) (.pointer (some ⟨wb, 0, none⟩))) w := by
  obtain ⟨o, h1, h2, h3, e⟩ := op31_1
  rw [← h3]
  exact stepTo_value h1 h2 (run_nilCheck e h w)
theorem st31_2 (b : Frame) (k : List Item) (cs : List Frame) (a : Act) (w : World) (wb : Nat) (h : a.eval (.tmp 3) = .pointer (some ⟨wb, 0, none⟩)) : StepTo Try.prog (opsOf Try.f31) b k cs 2 a w (a.put (some 4) (.pointer (some ⟨wb, 6, none⟩))) w := by
  obtain ⟨o, h1, h2, h3, e⟩ := op31_2
  rw [← h3]
  exact stepTo_value h1 h2 (run_field6 e h w)
theorem st31_3 (b : Frame) (k : List Item) (cs : List Frame) (a : Act) (w : World) (wb : Nat) (v : Value) (h : a.eval (.tmp 4) = .pointer (some ⟨wb, 6, none⟩)) (hc : w.cell? ⟨wb, 6, none⟩ = some v) : StepTo Try.prog (opsOf Try.f31) b k cs 3 a w (a.put (some 5) (v)) w := by
  obtain ⟨o, h1, h2, h3, e⟩ := op31_3
  rw [← h3]
  exact stepTo_value h1 h2 (run_load91 e h hc)
theorem st31_4 (b : Frame) (k : List Item) (cs : List Frame) (a : Act) (w : World)  : StepTo Try.prog (opsOf Try.f31) b k cs 4 a w (a.put (some 6) (a.eval (.tmp 0))) w := by
  obtain ⟨o, h1, h2, h3, e⟩ := op31_4
  rw [← h3]
  exact stepTo_value h1 h2 (run_move e w)
theorem st31_5 (b : Frame) (k : List Item) (cs : List Frame) (a : Act) (w : World) (wb : Nat) (h : a.eval (.tmp 6) = .pointer (some ⟨wb, 0, none⟩)) : StepTo Try.prog (opsOf Try.f31) b k cs 5 a w (a.put (some 7) (.pointer (some ⟨wb, 0, none⟩))) w := by
  obtain ⟨o, h1, h2, h3, e⟩ := op31_5
  rw [← h3]
  exact stepTo_value h1 h2 (run_nilCheck e h w)
theorem st31_6 (b : Frame) (k : List Item) (cs : List Frame) (a : Act) (w : World) (wb : Nat) (h : a.eval (.tmp 7) = .pointer (some ⟨wb, 0, none⟩)) : StepTo Try.prog (opsOf Try.f31) b k cs 6 a w (a.put (some 8) (.pointer (some ⟨wb, 0, none⟩))) w := by
  obtain ⟨o, h1, h2, h3, e⟩ := op31_6
  rw [← h3]
  exact stepTo_value h1 h2 (run_field0 e h w)
theorem st31_7 (b : Frame) (k : List Item) (cs : List Frame) (a : Act) (w : World) (wb : Nat) (v : Value) (h : a.eval (.tmp 8) = .pointer (some ⟨wb, 0, none⟩)) (hc : w.cell? ⟨wb, 0, none⟩ = some v) : StepTo Try.prog (opsOf Try.f31) b k cs 7 a w (a.put (some 9) (v)) w := by
  obtain ⟨o, h1, h2, h3, e⟩ := op31_7
  rw [← h3]
  exact stepTo_value h1 h2 (run_load29 e h hc)
theorem st31_8 (b : Frame) (k : List Item) (cs : List Frame) (a : Act) (w : World) (hk : b.kind ≠ .early) (tb : Nat) (pv : Value) (h5 : a.eval (.tmp 5) = .chan (some tb)) (h9 : a.eval (.tmp 9) = pv) {cap s r : Nat} {buf : Array Value} (hc : w.heap[tb]? = some (.chan cap buf false s r false)) (hroom : buf.size < cap) :
    StepTo Try.prog (opsOf Try.f31) b k cs 8 a w a (w.setChan tb cap (buf.push pv) false (s + 1) r false) := by
  obtain ⟨o, h1, h2, h3, e⟩ := op31_8
  have := stepTo_send (k := k) (cs := cs) h1 h2 hk (run_send e h5 h9 w) hc hroom
  rw [h3] at this
  exact this
theorem ready31_00 : Region.ready .any (opsOf Try.f31) #[false, false, false, false, false, false, false, false, false] = [0, 4] := by kernel_rfl
theorem ready31_01 : Region.ready .any (opsOf Try.f31) #[false, false, false, false, true, false, false, false, false] = [0, 5] := by kernel_rfl
theorem ready31_02 : Region.ready .any (opsOf Try.f31) #[false, false, false, false, true, true, false, false, false] = [0, 6] := by kernel_rfl
theorem ready31_03 : Region.ready .any (opsOf Try.f31) #[false, false, false, false, true, true, true, false, false] = [0, 7] := by kernel_rfl
theorem ready31_04 : Region.ready .any (opsOf Try.f31) #[false, false, false, false, true, true, true, true, false] = [0] := by kernel_rfl
theorem ready31_10 : Region.ready .any (opsOf Try.f31) #[true, false, false, false, false, false, false, false, false] = [1, 4] := by kernel_rfl
theorem ready31_11 : Region.ready .any (opsOf Try.f31) #[true, false, false, false, true, false, false, false, false] = [1, 5] := by kernel_rfl
theorem ready31_12 : Region.ready .any (opsOf Try.f31) #[true, false, false, false, true, true, false, false, false] = [1, 6] := by kernel_rfl
theorem ready31_13 : Region.ready .any (opsOf Try.f31) #[true, false, false, false, true, true, true, false, false] = [1, 7] := by kernel_rfl
theorem ready31_14 : Region.ready .any (opsOf Try.f31) #[true, false, false, false, true, true, true, true, false] = [1] := by kernel_rfl
theorem ready31_20 : Region.ready .any (opsOf Try.f31) #[true, true, false, false, false, false, false, false, false] = [2, 4] := by kernel_rfl
theorem ready31_21 : Region.ready .any (opsOf Try.f31) #[true, true, false, false, true, false, false, false, false] = [2, 5] := by kernel_rfl
theorem ready31_22 : Region.ready .any (opsOf Try.f31) #[true, true, false, false, true, true, false, false, false] = [2, 6] := by kernel_rfl
theorem ready31_23 : Region.ready .any (opsOf Try.f31) #[true, true, false, false, true, true, true, false, false] = [2, 7] := by kernel_rfl
theorem ready31_24 : Region.ready .any (opsOf Try.f31) #[true, true, false, false, true, true, true, true, false] = [2] := by kernel_rfl
theorem ready31_30 : Region.ready .any (opsOf Try.f31) #[true, true, true, false, false, false, false, false, false] = [3, 4] := by kernel_rfl
theorem ready31_31 : Region.ready .any (opsOf Try.f31) #[true, true, true, false, true, false, false, false, false] = [3, 5] := by kernel_rfl
theorem ready31_32 : Region.ready .any (opsOf Try.f31) #[true, true, true, false, true, true, false, false, false] = [3, 6] := by kernel_rfl
theorem ready31_33 : Region.ready .any (opsOf Try.f31) #[true, true, true, false, true, true, true, false, false] = [3, 7] := by kernel_rfl
theorem ready31_34 : Region.ready .any (opsOf Try.f31) #[true, true, true, false, true, true, true, true, false] = [3] := by kernel_rfl
theorem ready31_40 : Region.ready .any (opsOf Try.f31) #[true, true, true, true, false, false, false, false, false] = [4] := by kernel_rfl
theorem ready31_41 : Region.ready .any (opsOf Try.f31) #[true, true, true, true, true, false, false, false, false] = [5] := by kernel_rfl
theorem ready31_42 : Region.ready .any (opsOf Try.f31) #[true, true, true, true, true, true, false, false, false] = [6] := by kernel_rfl
theorem ready31_43 : Region.ready .any (opsOf Try.f31) #[true, true, true, true, true, true, true, false, false] = [7] := by kernel_rfl
theorem ready31_44 : Region.ready .any (opsOf Try.f31) #[true, true, true, true, true, true, true, true, false] = [8] := by kernel_rfl

/-- One state, out of those behind it. -/
theorem anyS_one {P : Program} {ops : Array Oper} {b : Frame} {k : List Item} {cs : List Frame} {F : Act → World → Prop} {fuel : Nat} {listed l1 : Array Bool} {a a1 : Act} {w : World} {i : Nat} (hr : Region.ready .any ops listed = [i]) (h : StepTo P ops b k cs i a w a1 w) (e : listed.setIfInBounds i true = l1) (hn : AnyS P ops b k cs F fuel l1 a1 w) : AnyS P ops b k cs F (fuel + 1) listed a w :=
  ⟨by rw [hr]; simp, fun j hj => by
    rw [hr] at hj; simp at hj; subst hj
    exact ⟨a1, w, h, by rw [e]; exact hn⟩⟩
theorem anyS_two {P : Program} {ops : Array Oper} {b : Frame} {k : List Item} {cs : List Frame} {F : Act → World → Prop} {fuel : Nat} {listed l1 l2 : Array Bool} {a a1 a2 : Act} {w : World} {i j : Nat} (hr : Region.ready .any ops listed = [i, j]) (h : StepTo P ops b k cs i a w a1 w) (e : listed.setIfInBounds i true = l1) (hn : AnyS P ops b k cs F fuel l1 a1 w)
    (h' : StepTo P ops b k cs j a w a2 w) (e' : listed.setIfInBounds j true = l2) (hn' : AnyS P ops b k cs F fuel l2 a2 w) : AnyS P ops b k cs F (fuel + 1) listed a w :=
  ⟨by rw [hr]; simp, fun m hm => by
    rw [hr] at hm; simp at hm
    rcases hm with rfl | rfl
    · exact ⟨a1, w, h, by rw [e]; exact hn⟩
    · exact ⟨a2, w, h', by rw [e']; exact hn'⟩⟩

set_option maxHeartbeats 2000000 in
/-- handOver's first statement, 'w.toRun <- w.page', in whatever order its loads come. -/
theorem any31 (wb tb : Nat) (pv : Value) (b : Frame) (k : List Item) (cs : List Frame) (w : World) (hk : b.kind ≠ .early) (h6 : w.cell? ⟨wb, 6, none⟩ = some (.chan (some tb))) (h0 : w.cell? ⟨wb, 0, none⟩ = some pv)
    {cap s r : Nat} {buf : Array Value} (hc : w.heap[tb]? = some (.chan cap buf false s r false)) (hroom : buf.size < cap) (F : Act → World → Prop) (hF : F ⟨#[.pointer (some ⟨wb, 0, none⟩), undef, .pointer (some ⟨wb, 0, none⟩), .pointer (some ⟨wb, 0, none⟩), .pointer (some ⟨wb, 6, none⟩), .chan (some tb), .pointer (some ⟨wb, 0, none⟩), .pointer (some ⟨wb, 0, none⟩), .pointer (some ⟨wb, 0, none⟩), pv, undef, undef, undef, undef, undef, undef, undef, undef, undef, undef, undef, undef, undef, undef, undef, undef, undef, undef, undef], []⟩ (w.setChan tb cap (buf.push pv) false (s + 1) r false)) :
    AnyS Try.prog (opsOf Try.f31) b k cs F 9 #[false, false, false, false, false, false, false, false, false] ⟨#[.pointer (some ⟨wb, 0, none⟩), undef, undef, undef, undef, undef, undef, undef, undef, undef, undef, undef, undef, undef, undef, undef, undef, undef, undef, undef, undef, undef, undef, undef, undef, undef, undef, undef, undef], []⟩ w := by
  have s44 : AnyS Try.prog (opsOf Try.f31) b k cs F 1 #[true, true, true, true, true, true, true, true, false] ⟨#[.pointer (some ⟨wb, 0, none⟩), undef, .pointer (some ⟨wb, 0, none⟩), .pointer (some ⟨wb, 0, none⟩), .pointer (some ⟨wb, 6, none⟩), .chan (some tb), .pointer (some ⟨wb, 0, none⟩), .pointer (some ⟨wb, 0, none⟩), .pointer (some ⟨wb, 0, none⟩), pv, undef, undef, undef, undef, undef, undef, undef, undef, undef, undef, undef, undef, undef, undef, undef, undef, undef, undef, undef], []⟩ w :=
    ⟨by rw [ready31_44]; simp, fun i hi => by
      rw [ready31_44] at hi; simp at hi; subst hi
      exact ⟨_, _, st31_8 b k cs _ w hk tb pv rfl rfl hc hroom, hF⟩⟩
  have s34 : AnyS Try.prog (opsOf Try.f31) b k cs F 2 #[true, true, true, false, true, true, true, true, false] ⟨#[.pointer (some ⟨wb, 0, none⟩), undef, .pointer (some ⟨wb, 0, none⟩), .pointer (some ⟨wb, 0, none⟩), .pointer (some ⟨wb, 6, none⟩), undef, .pointer (some ⟨wb, 0, none⟩), .pointer (some ⟨wb, 0, none⟩), .pointer (some ⟨wb, 0, none⟩), pv, undef, undef, undef, undef, undef, undef, undef, undef, undef, undef, undef, undef, undef, undef, undef, undef, undef, undef, undef], []⟩ w :=
    anyS_one ready31_34 (st31_3 b k cs _ w wb _ rfl h6) rfl s44
  have s43 : AnyS Try.prog (opsOf Try.f31) b k cs F 2 #[true, true, true, true, true, true, true, false, false] ⟨#[.pointer (some ⟨wb, 0, none⟩), undef, .pointer (some ⟨wb, 0, none⟩), .pointer (some ⟨wb, 0, none⟩), .pointer (some ⟨wb, 6, none⟩), .chan (some tb), .pointer (some ⟨wb, 0, none⟩), .pointer (some ⟨wb, 0, none⟩), .pointer (some ⟨wb, 0, none⟩), undef, undef, undef, undef, undef, undef, undef, undef, undef, undef, undef, undef, undef, undef, undef, undef, undef, undef, undef, undef], []⟩ w :=
    anyS_one ready31_43 (st31_7 b k cs _ w wb _ rfl h0) rfl s44
  have s24 : AnyS Try.prog (opsOf Try.f31) b k cs F 3 #[true, true, false, false, true, true, true, true, false] ⟨#[.pointer (some ⟨wb, 0, none⟩), undef, .pointer (some ⟨wb, 0, none⟩), .pointer (some ⟨wb, 0, none⟩), undef, undef, .pointer (some ⟨wb, 0, none⟩), .pointer (some ⟨wb, 0, none⟩), .pointer (some ⟨wb, 0, none⟩), pv, undef, undef, undef, undef, undef, undef, undef, undef, undef, undef, undef, undef, undef, undef, undef, undef, undef, undef, undef], []⟩ w :=
    anyS_one ready31_24 (st31_2 b k cs _ w wb rfl) rfl s34
  have s33 : AnyS Try.prog (opsOf Try.f31) b k cs F 3 #[true, true, true, false, true, true, true, false, false] ⟨#[.pointer (some ⟨wb, 0, none⟩), undef, .pointer (some ⟨wb, 0, none⟩), .pointer (some ⟨wb, 0, none⟩), .pointer (some ⟨wb, 6, none⟩), undef, .pointer (some ⟨wb, 0, none⟩), .pointer (some ⟨wb, 0, none⟩), .pointer (some ⟨wb, 0, none⟩), undef, undef, undef, undef, undef, undef, undef, undef, undef, undef, undef, undef, undef, undef, undef, undef, undef, undef, undef, undef], []⟩ w :=
    anyS_two ready31_33 (st31_3 b k cs _ w wb _ rfl h6) rfl s43 (st31_7 b k cs _ w wb _ rfl h0) rfl s34
  have s42 : AnyS Try.prog (opsOf Try.f31) b k cs F 3 #[true, true, true, true, true, true, false, false, false] ⟨#[.pointer (some ⟨wb, 0, none⟩), undef, .pointer (some ⟨wb, 0, none⟩), .pointer (some ⟨wb, 0, none⟩), .pointer (some ⟨wb, 6, none⟩), .chan (some tb), .pointer (some ⟨wb, 0, none⟩), .pointer (some ⟨wb, 0, none⟩), undef, undef, undef, undef, undef, undef, undef, undef, undef, undef, undef, undef, undef, undef, undef, undef, undef, undef, undef, undef, undef], []⟩ w :=
    anyS_one ready31_42 (st31_6 b k cs _ w wb rfl) rfl s43
  have s14 : AnyS Try.prog (opsOf Try.f31) b k cs F 4 #[true, false, false, false, true, true, true, true, false] ⟨#[.pointer (some ⟨wb, 0, none⟩), undef, .pointer (some ⟨wb, 0, none⟩), undef, undef, undef, .pointer (some ⟨wb, 0, none⟩), .pointer (some ⟨wb, 0, none⟩), .pointer (some ⟨wb, 0, none⟩), pv, undef, undef, undef, undef, undef, undef, undef, undef, undef, undef, undef, undef, undef, undef, undef, undef, undef, undef, undef], []⟩ w :=
    anyS_one ready31_14 (st31_1 b k cs _ w wb rfl) rfl s24
  have s23 : AnyS Try.prog (opsOf Try.f31) b k cs F 4 #[true, true, false, false, true, true, true, false, false] ⟨#[.pointer (some ⟨wb, 0, none⟩), undef, .pointer (some ⟨wb, 0, none⟩), .pointer (some ⟨wb, 0, none⟩), undef, undef, .pointer (some ⟨wb, 0, none⟩), .pointer (some ⟨wb, 0, none⟩), .pointer (some ⟨wb, 0, none⟩), undef, undef, undef, undef, undef, undef, undef, undef, undef, undef, undef, undef, undef, undef, undef, undef, undef, undef, undef, undef], []⟩ w :=
    anyS_two ready31_23 (st31_2 b k cs _ w wb rfl) rfl s33 (st31_7 b k cs _ w wb _ rfl h0) rfl s24
  have s32 : AnyS Try.prog (opsOf Try.f31) b k cs F 4 #[true, true, true, false, true, true, false, false, false] ⟨#[.pointer (some ⟨wb, 0, none⟩), undef, .pointer (some ⟨wb, 0, none⟩), .pointer (some ⟨wb, 0, none⟩), .pointer (some ⟨wb, 6, none⟩), undef, .pointer (some ⟨wb, 0, none⟩), .pointer (some ⟨wb, 0, none⟩), undef, undef, undef, undef, undef, undef, undef, undef, undef, undef, undef, undef, undef, undef, undef, undef, undef, undef, undef, undef, undef], []⟩ w :=
    anyS_two ready31_32 (st31_3 b k cs _ w wb _ rfl h6) rfl s42 (st31_6 b k cs _ w wb rfl) rfl s33
  have s41 : AnyS Try.prog (opsOf Try.f31) b k cs F 4 #[true, true, true, true, true, false, false, false, false] ⟨#[.pointer (some ⟨wb, 0, none⟩), undef, .pointer (some ⟨wb, 0, none⟩), .pointer (some ⟨wb, 0, none⟩), .pointer (some ⟨wb, 6, none⟩), .chan (some tb), .pointer (some ⟨wb, 0, none⟩), undef, undef, undef, undef, undef, undef, undef, undef, undef, undef, undef, undef, undef, undef, undef, undef, undef, undef, undef, undef, undef, undef], []⟩ w :=
    anyS_one ready31_41 (st31_5 b k cs _ w wb rfl) rfl s42
  have s04 : AnyS Try.prog (opsOf Try.f31) b k cs F 5 #[false, false, false, false, true, true, true, true, false] ⟨#[.pointer (some ⟨wb, 0, none⟩), undef, undef, undef, undef, undef, .pointer (some ⟨wb, 0, none⟩), .pointer (some ⟨wb, 0, none⟩), .pointer (some ⟨wb, 0, none⟩), pv, undef, undef, undef, undef, undef, undef, undef, undef, undef, undef, undef, undef, undef, undef, undef, undef, undef, undef, undef], []⟩ w :=
    anyS_one ready31_04 (st31_0 b k cs _ w) rfl s14
  have s13 : AnyS Try.prog (opsOf Try.f31) b k cs F 5 #[true, false, false, false, true, true, true, false, false] ⟨#[.pointer (some ⟨wb, 0, none⟩), undef, .pointer (some ⟨wb, 0, none⟩), undef, undef, undef, .pointer (some ⟨wb, 0, none⟩), .pointer (some ⟨wb, 0, none⟩), .pointer (some ⟨wb, 0, none⟩), undef, undef, undef, undef, undef, undef, undef, undef, undef, undef, undef, undef, undef, undef, undef, undef, undef, undef, undef, undef], []⟩ w :=
    anyS_two ready31_13 (st31_1 b k cs _ w wb rfl) rfl s23 (st31_7 b k cs _ w wb _ rfl h0) rfl s14
  have s22 : AnyS Try.prog (opsOf Try.f31) b k cs F 5 #[true, true, false, false, true, true, false, false, false] ⟨#[.pointer (some ⟨wb, 0, none⟩), undef, .pointer (some ⟨wb, 0, none⟩), .pointer (some ⟨wb, 0, none⟩), undef, undef, .pointer (some ⟨wb, 0, none⟩), .pointer (some ⟨wb, 0, none⟩), undef, undef, undef, undef, undef, undef, undef, undef, undef, undef, undef, undef, undef, undef, undef, undef, undef, undef, undef, undef, undef], []⟩ w :=
    anyS_two ready31_22 (st31_2 b k cs _ w wb rfl) rfl s32 (st31_6 b k cs _ w wb rfl) rfl s23
  have s31 : AnyS Try.prog (opsOf Try.f31) b k cs F 5 #[true, true, true, false, true, false, false, false, false] ⟨#[.pointer (some ⟨wb, 0, none⟩), undef, .pointer (some ⟨wb, 0, none⟩), .pointer (some ⟨wb, 0, none⟩), .pointer (some ⟨wb, 6, none⟩), undef, .pointer (some ⟨wb, 0, none⟩), undef, undef, undef, undef, undef, undef, undef, undef, undef, undef, undef, undef, undef, undef, undef, undef, undef, undef, undef, undef, undef, undef], []⟩ w :=
    anyS_two ready31_31 (st31_3 b k cs _ w wb _ rfl h6) rfl s41 (st31_5 b k cs _ w wb rfl) rfl s32
  have s40 : AnyS Try.prog (opsOf Try.f31) b k cs F 5 #[true, true, true, true, false, false, false, false, false] ⟨#[.pointer (some ⟨wb, 0, none⟩), undef, .pointer (some ⟨wb, 0, none⟩), .pointer (some ⟨wb, 0, none⟩), .pointer (some ⟨wb, 6, none⟩), .chan (some tb), undef, undef, undef, undef, undef, undef, undef, undef, undef, undef, undef, undef, undef, undef, undef, undef, undef, undef, undef, undef, undef, undef, undef], []⟩ w :=
    anyS_one ready31_40 (st31_4 b k cs _ w) rfl s41
  have s03 : AnyS Try.prog (opsOf Try.f31) b k cs F 6 #[false, false, false, false, true, true, true, false, false] ⟨#[.pointer (some ⟨wb, 0, none⟩), undef, undef, undef, undef, undef, .pointer (some ⟨wb, 0, none⟩), .pointer (some ⟨wb, 0, none⟩), .pointer (some ⟨wb, 0, none⟩), undef, undef, undef, undef, undef, undef, undef, undef, undef, undef, undef, undef, undef, undef, undef, undef, undef, undef, undef, undef], []⟩ w :=
    anyS_two ready31_03 (st31_0 b k cs _ w) rfl s13 (st31_7 b k cs _ w wb _ rfl h0) rfl s04
  have s12 : AnyS Try.prog (opsOf Try.f31) b k cs F 6 #[true, false, false, false, true, true, false, false, false] ⟨#[.pointer (some ⟨wb, 0, none⟩), undef, .pointer (some ⟨wb, 0, none⟩), undef, undef, undef, .pointer (some ⟨wb, 0, none⟩), .pointer (some ⟨wb, 0, none⟩), undef, undef, undef, undef, undef, undef, undef, undef, undef, undef, undef, undef, undef, undef, undef, undef, undef, undef, undef, undef, undef], []⟩ w :=
    anyS_two ready31_12 (st31_1 b k cs _ w wb rfl) rfl s22 (st31_6 b k cs _ w wb rfl) rfl s13
  have s21 : AnyS Try.prog (opsOf Try.f31) b k cs F 6 #[true, true, false, false, true, false, false, false, false] ⟨#[.pointer (some ⟨wb, 0, none⟩), undef, .pointer (some ⟨wb, 0, none⟩), .pointer (some ⟨wb, 0, none⟩), undef, undef, .pointer (some ⟨wb, 0, none⟩), undef, undef, undef, undef, undef, undef, undef, undef, undef, undef, undef, undef, undef, undef, undef, undef, undef, undef, undef, undef, undef, undef], []⟩ w :=
    anyS_two ready31_21 (st31_2 b k cs _ w wb rfl) rfl s31 (st31_5 b k cs _ w wb rfl) rfl s22
  have s30 : AnyS Try.prog (opsOf Try.f31) b k cs F 6 #[true, true, true, false, false, false, false, false, false] ⟨#[.pointer (some ⟨wb, 0, none⟩), undef, .pointer (some ⟨wb, 0, none⟩), .pointer (some ⟨wb, 0, none⟩), .pointer (some ⟨wb, 6, none⟩), undef, undef, undef, undef, undef, undef, undef, undef, undef, undef, undef, undef, undef, undef, undef, undef, undef, undef, undef, undef, undef, undef, undef, undef], []⟩ w :=
    anyS_two ready31_30 (st31_3 b k cs _ w wb _ rfl h6) rfl s40 (st31_4 b k cs _ w) rfl s31
  have s02 : AnyS Try.prog (opsOf Try.f31) b k cs F 7 #[false, false, false, false, true, true, false, false, false] ⟨#[.pointer (some ⟨wb, 0, none⟩), undef, undef, undef, undef, undef, .pointer (some ⟨wb, 0, none⟩), .pointer (some ⟨wb, 0, none⟩), undef, undef, undef, undef, undef, undef, undef, undef, undef, undef, undef, undef, undef, undef, undef, undef, undef, undef, undef, undef, undef], []⟩ w :=
    anyS_two ready31_02 (st31_0 b k cs _ w) rfl s12 (st31_6 b k cs _ w wb rfl) rfl s03
  have s11 : AnyS Try.prog (opsOf Try.f31) b k cs F 7 #[true, false, false, false, true, false, false, false, false] ⟨#[.pointer (some ⟨wb, 0, none⟩), undef, .pointer (some ⟨wb, 0, none⟩), undef, undef, undef, .pointer (some ⟨wb, 0, none⟩), undef, undef, undef, undef, undef, undef, undef, undef, undef, undef, undef, undef, undef, undef, undef, undef, undef, undef, undef, undef, undef, undef], []⟩ w :=
    anyS_two ready31_11 (st31_1 b k cs _ w wb rfl) rfl s21 (st31_5 b k cs _ w wb rfl) rfl s12
  have s20 : AnyS Try.prog (opsOf Try.f31) b k cs F 7 #[true, true, false, false, false, false, false, false, false] ⟨#[.pointer (some ⟨wb, 0, none⟩), undef, .pointer (some ⟨wb, 0, none⟩), .pointer (some ⟨wb, 0, none⟩), undef, undef, undef, undef, undef, undef, undef, undef, undef, undef, undef, undef, undef, undef, undef, undef, undef, undef, undef, undef, undef, undef, undef, undef, undef], []⟩ w :=
    anyS_two ready31_20 (st31_2 b k cs _ w wb rfl) rfl s30 (st31_4 b k cs _ w) rfl s21
  have s01 : AnyS Try.prog (opsOf Try.f31) b k cs F 8 #[false, false, false, false, true, false, false, false, false] ⟨#[.pointer (some ⟨wb, 0, none⟩), undef, undef, undef, undef, undef, .pointer (some ⟨wb, 0, none⟩), undef, undef, undef, undef, undef, undef, undef, undef, undef, undef, undef, undef, undef, undef, undef, undef, undef, undef, undef, undef, undef, undef], []⟩ w :=
    anyS_two ready31_01 (st31_0 b k cs _ w) rfl s11 (st31_5 b k cs _ w wb rfl) rfl s02
  have s10 : AnyS Try.prog (opsOf Try.f31) b k cs F 8 #[true, false, false, false, false, false, false, false, false] ⟨#[.pointer (some ⟨wb, 0, none⟩), undef, .pointer (some ⟨wb, 0, none⟩), undef, undef, undef, undef, undef, undef, undef, undef, undef, undef, undef, undef, undef, undef, undef, undef, undef, undef, undef, undef, undef, undef, undef, undef, undef, undef], []⟩ w :=
    anyS_two ready31_10 (st31_1 b k cs _ w wb rfl) rfl s20 (st31_4 b k cs _ w) rfl s11
  have s00 : AnyS Try.prog (opsOf Try.f31) b k cs F 9 #[false, false, false, false, false, false, false, false, false] ⟨#[.pointer (some ⟨wb, 0, none⟩), undef, undef, undef, undef, undef, undef, undef, undef, undef, undef, undef, undef, undef, undef, undef, undef, undef, undef, undef, undef, undef, undef, undef, undef, undef, undef, undef, undef], []⟩ w :=
    anyS_two ready31_00 (st31_0 b k cs _ w) rfl s10 (st31_4 b k cs _ w) rfl s01
  exact s00
end Go.Proofs.Qxb6605831a

import Derived.Test.Qxb6605831aNew
import Derived.Conc.LoneCalls
import Derived.Orders
namespace Go.Proofs.Qxb6605831a
open Go.RowKit Go.Conc

/-! ### A function whose beginning communicates: its first steps by the machine, the rest by the walk -/

theorem calls_after {P : Program} {f : FuncId} {fn : Func} {c : Code} {args : Array Value} {w : World} {R : Ending → World → Prop} (hf : P.funcs[f]? = some fn)
    (h : ∀ cs, ∃ a1 w1, Steps P (lone (Frame.enter P f args .normal) cs w) (lone ((base f).at a1 [.code c]) cs w1) ∧ c.wp P (bodyPost P fn R) a1 w1) : Calls P f args w R := by
  intro cs
  obtain ⟨a1, w1, hs, hw⟩ := h cs
  obtain ⟨e, a', w', hq, harr⟩ := hw (base f) [] cs
  cases e with
  | normal =>
    obtain ⟨hd, v, hr, hR⟩ := hq
    exact ⟨.returned v, w', _, hR, hs.trans (Steps.trans harr (.one step_end)), rfl, rfl, hd, rfl, fn, hf, hr⟩
  | ret =>
    obtain ⟨hd, v, hr, hR⟩ := hq
    obtain ⟨todo, hs'⟩ := harr
    exact ⟨.returned v, w', _, hR, hs.trans hs', rfl, rfl, hd, rfl, fn, hf, hr⟩
  | panic chain =>
    obtain ⟨hd, hR⟩ := hq
    obtain ⟨todo, hs'⟩ := harr
    exact ⟨.panicked chain, w', _, hR, hs.trans hs', rfl, rfl, hd, fn, hf⟩
  | exit id => exact hq.elim
  | goto l => exact hq.elim
  | outgrown => exact ⟨.outgrown, w', base f, hq, Outgrown.of_steps hs (harr.resolve_left (by simp [base])), rfl, trivial⟩

/-- One operation of a region, by one step of the machine. -/
def StepTo (P : Program) (ops : Array Oper) (b : Frame) (k : List Item) (cs : List Frame) (i : Nat) (a : Act) (w : World) (a' : Act) (w' : World) : Prop :=
  ∀ rest, step P (lone (b.at a (.inRegion ops (i :: rest) :: k)) cs w) = .next (lone (b.at a' (.inRegion ops rest :: k)) cs w')

theorem stepTo_value {P : Program} {ops : Array Oper} {b : Frame} {k : List Item} {cs : List Frame} {i : Nat} {a : Act} {w w' : World} {o : Oper} {v : Value} (ho : ops[i]? = some o) (hg : o.guard = none)
    (hr : (execOp a.eval o).run P w = .ok (.value v) w') : StepTo P ops b k cs i a w (a.put o.dst v) w' := by
  intro rest
  have hw : Region.wanted o (yielded ops a.tmps) = true := by simp [Region.wanted, hg]
  have hfin : (b.at a (.inRegion ops (i :: rest) :: k)).finish v = b.at (a.put o.dst v) (.inRegion ops rest :: k) := by rw [Frame.finish_at, ho]; rfl
  rw [← hfin]
  exact step_lone_go (by rw [stepG_op ho hw]; simp [stepG.apply, hr])

theorem stepTo_send {P : Program} {ops : Array Oper} {b : Frame} {k : List Item} {cs : List Frame} {i : Nat} {a : Act} {w : World} {o : Oper} {c cap s r : Nat} {buf : Array Value} {v z : Value} {tm : Bool} (ho : ops[i]? = some o) (hg : o.guard = none) (hk : b.kind ≠ .early)
    (hr : (execOp a.eval o).run P w = .ok (.comm #[scase c v z] true .send) w) (hc : w.heap[c]? = some (.chan cap buf false s r tm)) (hroom : buf.size < cap) :
    StepTo P ops b k cs i a w (a.put o.dst undef) (w.setChan c cap (buf.push v) false (s + 1) r tm) := by
  intro rest
  have hw : Region.wanted o (yielded ops a.tmps) = true := by simp [Region.wanted, hg]
  have hfin : (b.at a (.inRegion ops (i :: rest) :: k)).finish undef = b.at (a.put o.dst undef) (.inRegion ops rest :: k) := by rw [Frame.finish_at, ho]; rfl
  rw [← hfin]
  exact step_lone_send_room (stepG_comm ho hw hk hr) hc hroom

theorem stepTo_recv {P : Program} {ops : Array Oper} {b : Frame} {k : List Item} {cs : List Frame} {i : Nat} {a : Act} {w : World} {o : Oper} {c cap s r : Nat} {buf : Array Value} {z : Value} {tm closed : Bool} (ho : ops[i]? = some o) (hg : o.guard = none) (hk : b.kind ≠ .early)
    (hr : (execOp a.eval o).run P w = .ok (.comm #[rcase c z] true (.recv false)) w) (hc : w.heap[c]? = some (.chan cap buf closed s r tm)) (hsome : 0 < buf.size) :
    StepTo P ops b k cs i a w (a.put o.dst (buf.getD 0 undef)) (w.setChan c cap (buf.extract 1 buf.size) closed s (r + 1) tm) := by
  intro rest
  have hw : Region.wanted o (yielded ops a.tmps) = true := by simp [Region.wanted, hg]
  have hfin : (b.at a (.inRegion ops (i :: rest) :: k)).finish (buf.getD 0 undef) = b.at (a.put o.dst (buf.getD 0 undef)) (.inRegion ops rest :: k) := by rw [Frame.finish_at, ho]; rfl
  rw [← hfin]
  exact step_lone_recv_buf false (stepG_comm ho hw hk hr) hc hsome

/-- Whatever order the edges allow: the region's operations come to F. -/
def AnyS (P : Program) (ops : Array Oper) (b : Frame) (k : List Item) (cs : List Frame) (F : Act → World → Prop) : Nat → Array Bool → Act → World → Prop
  | 0, _, a, w => F a w
  | fuel + 1, listed, a, w => Region.ready .any ops listed ≠ [] ∧ ∀ i, i ∈ Region.ready .any ops listed → ∃ a' w', StepTo P ops b k cs i a w a' w' ∧ AnyS P ops b k cs F fuel (listed.setIfInBounds i true) a' w'

theorem anyS_sound {P : Program} {ops : Array Oper} {b : Frame} {k : List Item} {cs : List Frame} {F : Act → World → Prop} : ∀ (fuel t : Nat) (listed : Array Bool) (a : Act) (w : World), AnyS P ops b k cs F fuel listed a w →
    ∃ a' w', F a' w' ∧ Steps P (lone (b.at a (.inRegion ops (Region.linearise.go .any ops fuel t listed []) :: k)) cs w) (lone (b.at a' (.inRegion ops [] :: k)) cs w') := by
  intro fuel
  induction fuel with
  | zero => exact fun t listed a w h => ⟨a, w, h, by simp only [Region.linearise.go]; exact Steps.refl _ _⟩
  | succ fuel ih =>
    intro t listed a w h
    obtain ⟨h0, h1⟩ := h
    have hlt : t % (Region.ready .any ops listed).length < (Region.ready .any ops listed).length := Nat.mod_lt _ (by cases hr : Region.ready .any ops listed with | nil => exact absurd hr h0 | cons x xs => simp)
    have hi := List.getElem?_eq_getElem hlt
    obtain ⟨a1, w1, hs, hn⟩ := h1 _ (List.getElem_mem hlt)
    obtain ⟨a', w', hF, hst⟩ := ih (t / (Region.ready .any ops listed).length) _ a1 w1 hn
    refine ⟨a', w', hF, ?_⟩
    have e : Region.linearise.go .any ops (fuel + 1) t listed [] = (Region.ready .any ops listed)[t % (Region.ready .any ops listed).length] :: Region.linearise.go .any ops fuel (t / (Region.ready .any ops listed).length) (listed.setIfInBounds ((Region.ready .any ops listed)[t % (Region.ready .any ops listed).length]) true) [] := by
      simp only [Region.linearise.go]
      change (match (Region.ready .any ops listed)[t % (Region.ready .any ops listed).length]? with
        | some i => Region.linearise.go .any ops fuel (t / (Region.ready .any ops listed).length) (listed.setIfInBounds i true) [i]
        | none => [].reverse) = _
      rw [hi]
      simp only []
      rw [linearise_go_acc]
      rfl
    rw [e]
    exact Steps.head (hs _) hst
end Go.Proofs.Qxb6605831a

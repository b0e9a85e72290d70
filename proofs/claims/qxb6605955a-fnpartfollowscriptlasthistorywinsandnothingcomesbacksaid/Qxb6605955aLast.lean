import Derived.Deep.RegionHeld
namespace Go.Proofs.Qxb6605955a
section
variable {P : Program} {ops : Array Oper} {Q : Exit → Act → World → Prop} {md : Region.Mode} {S : World → Prop} {f : Nat}

/-- In whatever order; S holds behind each operation that is carried out, BUT FOR NUMBER f (the region's last store). -/
def Held (P : Program) (md : Region.Mode) (ops : Array Oper) (Q : Exit → Act → World → Prop) (S : World → Prop) (f : Nat) : Nat → Array Bool → Act → World → Prop
  | 0, listed, a, w => Region.ready md ops listed = [] ∧ Q .normal a w
  | fuel + 1, listed, a, w =>
    (Region.ready md ops listed = [] → Q .normal a w) ∧
    ∀ i ∈ Region.ready md ops listed, wpOp P ops Q i (fun a' w' => (i ≠ f → S w') ∧ Held P md ops Q S f fuel (listed.setIfInBounds i true) a' w') a w

theorem Held.any : ∀ (fuel : Nat) (listed : Array Bool) (a : Act) (w : World), Held P md ops Q S f fuel listed a w → wpAny P md ops Q fuel listed a w
  | 0, _, _, _, h => h
  | fuel + 1, _, _, _, h => ⟨h.1, fun i hi => wpOp_mono (fun a' w' h' => Held.any fuel _ a' w' h'.2) (h.2 i hi)⟩

/-- Does operation f wait for operation i? -/
def waits (md : Region.Mode) (ops : Array Oper) (f i : Nat) : Bool :=
  match ops[f]? with
  | some o => o.after.any fun e => Region.binds md e && e.on == i
  | none => false

/-- An operation that f waits for, and that yields in each world that meets S, may be taken first. -/
theorem Held.first {i : Nat} {oi : Oper} {v : Value} (hi : ops[i]? = some oi) (hsel : ∀ (j : Nat) (o : Oper) cs b, ops[j]? = some o → o.op ≠ .select cs b)
    (hwt : waits md ops f i = true) (hQ : ∀ c a w, Q (.panic c) (a.put oi.dst v) w → Q (.panic c) a w) :
    ∀ (fuel : Nat) (listed : Array Bool) (a : Act) (w : World),
      (∀ j oj, ops[j]? = some oj → j ≠ i → listed.getD j true = false → (∀ e ∈ oj.after, Region.binds md e = true → e.on ≠ i) → oi.apart ops oj = true) →
      i ∈ Region.ready md ops listed → YieldsIf P ops S oi v a → S w →
      Held P md ops Q S f fuel (listed.setIfInBounds i true) (a.put oi.dst v) w → Held P md ops Q S f (fuel + 1) listed a w := by
  intro fuel
  induction fuel with
  | zero =>
    intro listed a w _ hr hy hS H
    refine ⟨fun h => (by rw [h] at hr; cases hr), fun j hj => ?_⟩
    by_cases hji : j = i
    · subst hji; exact hy.wpOp hi hS ⟨fun _ => hS, H⟩
    · have := ready_mono hj hji
      rw [H.1] at this
      cases this
  | succ fuel ih =>
    intro listed a w hfree hr hy hS H
    refine ⟨fun h => (by rw [h] at hr; cases hr), fun j hj => ?_⟩
    by_cases hji : j = i
    · subst hji; exact hy.wpOp hi hS ⟨fun _ => hS, H⟩
    · have h1 := H.2 j (ready_mono hj hji)
      obtain ⟨hjun, oj, hoj, hall⟩ := mem_ready.1 hj
      have hnot : ∀ e ∈ oj.after, Region.binds md e = true → e.on ≠ i := fun e he hb heq => by
        have h1 := hall e he hb
        have h0 := (mem_ready.1 hr).1
        rw [heq] at h1
        rcases Nat.lt_or_ge i listed.size with h' | h'
        · simp [h'] at h0 h1; rw [h0] at h1; cases h1
        · simp [Array.getElem?_eq_none h'] at h1
      have hjf : j ≠ f := by
        rintro rfl
        simp only [waits, hoj] at hwt
        obtain ⟨e, he, hb⟩ := Array.any_eq_true'.1 hwt
        simp only [Bool.and_eq_true, beq_iff_eq] at hb
        exact hnot e he hb.1 hb.2
      have h2 := wpOp_putIf hoj (hfree j oj hoj hji hjun hnot) (fun cs b => hsel i oi cs b hi) (fun cs b => hsel j oj cs b hoj) hQ hy h1
      have hfree' : ∀ k ok, ops[k]? = some ok → k ≠ i → (listed.setIfInBounds j true).getD k true = false →
          (∀ e ∈ ok.after, Region.binds md e = true → e.on ≠ i) → oi.apart ops ok = true := fun k ok hk hki hun hno => by
        refine hfree k ok hk hki ?_ hno
        by_cases hjk : j = k
        · subst hjk; exact hjun
        · rw [getD_set_ne true hjk] at hun; exact hun
      refine wpOp_mono (fun a' w' h3 => ⟨h3.2.1, ih (listed.setIfInBounds j true) a' w' hfree' (ready_mono hr (Ne.symm hji)) h3.1 (h3.2.1 hjf) ?_⟩) h2
      rw [Array.setIfInBounds_comm _ _ hji]
      exact h3.2.2

theorem Held.take (i : Nat) (v : Value) {oi : Oper} {fuel : Nat} {listed : Array Bool} {a : Act} {w : World} (hi : ops[i]? = some oi)
    (hs : Region.noSelect ops = true) (hf : Region.free md ops listed i = true) (hr : (Region.ready md ops listed).contains i = true) (hwt : waits md ops f i = true)
    (hQ : ∀ c a w, Q (.panic c) (a.put oi.dst v) w → Q (.panic c) a w) (hw : Region.wanted oi (yielded ops a.tmps) = true) (hy : ∀ w', S w' → (execOp a.eval oi).run P w' = .ok (.value v) w') (hS : S w)
    (h : Held P md ops Q S f fuel (listed.setIfInBounds i true) (a.put oi.dst v) w) : Held P md ops Q S f (fuel + 1) listed a w :=
  Held.first hi (Region.noSelect_spec hs) hwt hQ fuel listed a w (Region.free_spec hi hf) (by simpa using hr) (.inl ⟨hw, hy⟩) hS h

/-- One alone may come up. -/
theorem Held.one (i : Nat) {o : Oper} {fuel : Nat} {listed : Array Bool} {a : Act} {w : World} (hr : Region.ready md ops listed = [i]) (ho : ops[i]? = some o)
    (h : ∀ K' : Act → World → Prop, Shut (∀ a w, (i ≠ f → S w) → Held P md ops Q S f fuel (listed.setIfInBounds i true) a w → K' a w) → if Region.wanted o (yielded ops a.tmps) = true then Oper.wp P o a w K' Q else K' (a.put o.dst undef) w) :
    Held P md ops Q S f (fuel + 1) listed a w :=
  ⟨fun h0 => absurd (hr ▸ h0) (by simp), fun j hj => by
    rw [hr] at hj
    obtain rfl := List.mem_singleton.1 hj
    exact wpOp_step ho fun K' hK => h K' fun a w hS hW => hK a w ⟨hS, hW⟩⟩

theorem Held.done {listed : Array Bool} {a : Act} {w : World} (hr : Region.ready md ops listed = []) (h : Q .normal a w) :
    ∀ fuel, Held P md ops Q S f fuel listed a w
  | 0 => ⟨hr, h⟩
  | _ + 1 => ⟨fun _ => h, by rw [hr]; simp⟩

theorem Held.start (S : World → Prop) (f : Nat) {id : Nat} {a : Act} {w : World} (hm : P.follows .mixedOrders = true)
    (h : Held P .any ops Q S f ops.size (Array.replicate ops.size false) a w.drew) : (Code.region id ops true).wp P Q a w :=
  wp_region_any hm (Held.any _ _ _ _ h)
end
end Go.Proofs.Qxb6605955a

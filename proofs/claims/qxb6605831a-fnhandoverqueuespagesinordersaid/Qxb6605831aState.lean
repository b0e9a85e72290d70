import Derived.Test.Qxb6605831aHolds
import Derived.Test.Qxb6605831aRecv
import Derived.LaidEqlPtr
namespace Go.Proofs.Qxb6605831a
open Go.RowKit Go.Conc

/-- The Writer behind a page that has been filled. -/
theorem wstate_filled {B : Nat} {w w' : World} {wb pb spb scap : Nat} {spares : List Nat} {infl given handed : Int} {tb fb sb rb : Nat} {buf : Array Value} {sent recv : Nat} {written : Int} {S : Nat → Stamp} {n : Nat} {page : Array Value}
    (hW : WState B w wb pb spb scap spares infl given handed tb fb sb rb buf sent recv written) (hp : w.heap[pb]? = some (.cells page 99 (0, 0)))
    (h : Wrote w.heap.size w wb pb (.slice (some ⟨spb, 0, none⟩) spares.length scap) infl given handed tb fb sb rb S n w') :
    WState B w' wb pb spb scap spares infl (given + n) handed tb fb sb rb buf sent recv written ∧ Held w' pb n S := by
  obtain ⟨⟨recV, bp, mc, hF⟩, hfr⟩ := h
  have far : ∀ {k : Nat} {o : Obj}, w.heap[k]? = some o → k ≠ wb → k ≠ pb → w'.heap[k]? = some o := fun {k o} hk h1 h2 => by
    rw [hfr.block k (lt_of hk) (by simp [h1, h2])]; exact hk
  have nw : ∀ {k : Nat} {cs : Array Value} {t : TypeId}, w.heap[k]? = some (.cells cs t (0, 0)) → t ≠ 95 → k ≠ wb := fun h ht => ne_of_types h hW.writer ht
  have np : ∀ {k : Nat} {cs : Array Value} {t : TypeId}, w.heap[k]? = some (.cells cs t (0, 0)) → t ≠ 99 → k ≠ pb := fun h ht => ne_of_types h hp ht
  refine ⟨⟨hF.writer, far hW.chan ?_ ?_, ?_, ?_, hW.room, ?_, hW.nodup, hW.bounds⟩, ⟨_, recV, bp, mc, _, _, hF.page, hF.recs, hF.byts⟩⟩
  · rintro rfl
    have := hW.chan; rw [hW.writer] at this; simp at this
  · rintro rfl
    have := hW.chan; rw [hp] at this; simp at this
  · obtain ⟨z2, h1, h2⟩ := hW.runner
    exact ⟨z2, far h1 (nw h1 (by decide)) (np h1 (by decide)), h2⟩
  · obtain ⟨cur, h1, h2⟩ := hW.row
    exact ⟨cur, far h1 (nw h1 (by decide)) (np h1 (by decide)), h2⟩
  · intro p hpm
    obtain ⟨h1, h2⟩ := hW.each p hpm
    refine ⟨h1, far h2 (nw h2 (by decide)) ?_⟩
    rintro rfl
    exact (List.nodup_cons.1 hW.nodup).1 hpm

/-- What a page holds stands where its three blocks stand. -/
theorem Held.fr {w w' : World} {pb n : Nat} {S : Nat → Stamp} {X : List Nat} (h : Held w pb n S) (hf : Fr X w w') (hX : ∀ k cs t, k ∈ X → w.heap[k]? = some (.cells cs t (0, 0)) → t ≠ 99 ∧ t ≠ 111 ∧ t ≠ 5) : Held w' pb n S := by
  obtain ⟨B, recV, bp, mc, vio, err, hp, hr, hb⟩ := h.page
  refine ⟨B, recV, bp, mc, vio, err, (hf.block pb (lt_of hp) fun hm => (hX _ _ _ hm hp).1 rfl).trans hp, own_fr hr hf fun g hg hm => ?_, own_fr hb hf fun g hg hm => ?_⟩
  · obtain ⟨cur, hcur⟩ := own_type hr hg
    exact (hX _ _ _ hm hcur).2.1 rfl
  · obtain ⟨cur, hcur⟩ := own_type hb hg
    exact (hX _ _ _ hm hcur).2.2 rfl

/-- The Writer's own block and its channel's are no page's. -/
theorem far_wt {B : Nat} {w : World} {wb pb spb scap : Nat} {spares : List Nat} {infl given handed : Int} {tb fb sb rb : Nat} {buf : Array Value} {sent recv : Nat} {written : Int}
    (hW : WState B w wb pb spb scap spares infl given handed tb fb sb rb buf sent recv written) : ∀ k cs t, k ∈ [wb, tb] → w.heap[k]? = some (.cells cs t (0, 0)) → t ≠ 99 ∧ t ≠ 111 ∧ t ≠ 5 := by
  intro k cs t hk h
  simp at hk
  rcases hk with rfl | rfl
  · have := hW.writer; rw [h] at this; simp at this; rw [this.2]; decide
  · have := hW.chan; rw [h] at this; simp at this

/-- The Writer behind a receive from its channel. -/
theorem wstate_recv {B : Nat} {w : World} {wb pb spb scap : Nat} {spares : List Nat} {infl given handed : Int} {tb fb sb rb : Nat} {buf : Array Value} {sent recv : Nat} {written : Int}
    (hW : WState B w wb pb spb scap spares infl given handed tb fb sb rb buf sent recv written) (buf' : Array Value) (s' r' : Nat) :
    WState B (w.setChan tb 4 buf' false s' r' false) wb pb spb scap spares infl given handed tb fb sb rb buf' s' r' written ∧ Fr [tb] w (w.setChan tb 4 buf' false s' r' false) := by
  have far : ∀ {k : Nat} {cs : Array Value} {t : TypeId}, w.heap[k]? = some (.cells cs t (0, 0)) → (w.setChan tb 4 buf' false s' r' false).heap[k]? = some (.cells cs t (0, 0)) := fun {k cs t} h => by
    rw [setChan_far]
    · exact h
    · rintro rfl
      have := hW.chan; rw [h] at this; simp at this
  refine ⟨⟨far hW.writer, setChan_same _ _ _ _ _ _ _ _ (lt_of hW.chan), ?_, ?_, hW.room, ?_, hW.nodup, hW.bounds⟩, Fr.setChan (Fr.refl _ _) (by simp) _ _ _ _ _ _⟩
  · obtain ⟨z2, h1, h2⟩ := hW.runner
    exact ⟨z2, far h1, h2⟩
  · obtain ⟨cur, h1, h2⟩ := hW.row
    exact ⟨cur, far h1, h2⟩
  · intro p hpm
    obtain ⟨h1, h2⟩ := hW.each p hpm
    exact ⟨h1, far h2⟩

theorem far_t {B : Nat} {w : World} {wb pb spb scap : Nat} {spares : List Nat} {infl given handed : Int} {tb fb sb rb : Nat} {buf : Array Value} {sent recv : Nat} {written : Int}
    (hW : WState B w wb pb spb scap spares infl given handed tb fb sb rb buf sent recv written) : ∀ k cs t, k ∈ [tb] → w.heap[k]? = some (.cells cs t (0, 0)) → t ≠ 99 ∧ t ≠ 111 ∧ t ≠ 5 :=
  fun k cs t hk h => far_wt hW k cs t (by simp at hk; simp [hk]) h

/-- What the walk reads of a Writer. -/
theorem wcell {B : Nat} {w : World} {wb pb spb scap : Nat} {spares : List Nat} {infl given handed : Int} {tb fb sb rb : Nat} {buf : Array Value} {sent recv : Nat} {written : Int}
    (hW : WState B w wb pb spb scap spares infl given handed tb fb sb rb buf sent recv written) :
    w.cell? ⟨wb, 0, none⟩ = some (.pointer (some ⟨pb, 0, none⟩)) ∧ w.cell? ⟨wb, 1, none⟩ = some (.slice (some ⟨spb, 0, none⟩) spares.length scap) ∧ w.cell? ⟨wb, 2, none⟩ = some (.int .i64 infl) ∧ w.cell? ⟨wb, 3, none⟩ = some (.int .i64 given) ∧
    w.cell? ⟨wb, 4, none⟩ = some (.int .i64 handed) ∧ w.cell? ⟨wb, 6, none⟩ = some (.chan (some tb)) ∧ w.cell? ⟨wb, 9, none⟩ = some (.pointer (some ⟨rb, 0, none⟩)) ∧ w.cell? ⟨rb, 220, none⟩ = some (.int .i64 written) := by
  refine ⟨(cell_of hW.writer 0).trans rfl, (cell_of hW.writer 1).trans rfl, (cell_of hW.writer 2).trans rfl, (cell_of hW.writer 3).trans rfl, (cell_of hW.writer 4).trans rfl, (cell_of hW.writer 6).trans rfl, (cell_of hW.writer 9).trans rfl, ?_⟩
  obtain ⟨z2, h1, h2⟩ := hW.runner
  exact (cell_of h1 220).trans h2

/-- Of two pages: the same; not the same. -/
theorem ptr_same (a : Addr) (w : World) : (binOp .neq 29 (.pointer (some a)) (.pointer (some a))).run Try.prog w = .ok (.bool false) w := by
  obtain ⟨j, hj, _⟩ := Option.map_eq_some_iff.1 (show (Try.prog.info? 99).map (fun i => i.size) = some 4 by kernel_rfl)
  have h : ∀ d : Nat, (Op.equalIn (d + 1) 29 (.pointer (some a)) (.pointer (some a))).run Try.prog w = .ok true w := fun d => by
    simp [Op.equalIn, run_underlying Try.underlying29, sizeOf, typeInfo, hj, run_sameAddr_same]
  simp only [binOp]
  simp [Op.equal, Op.maxDepth, h 9999]
theorem ptr_other {a b : Nat} {w : World} {ca cb : Array Value} {ta tb : TypeId} (hne : a ≠ b) (ha : w.heap[a]? = some (.cells ca ta (0, 0))) (hb : w.heap[b]? = some (.cells cb tb (0, 0))) :
    (binOp .eql 29 (.pointer (some ⟨a, 0, none⟩)) (.pointer (some ⟨b, 0, none⟩))).run Try.prog w = .ok (.bool false) w := by
  obtain ⟨j, hj, hs⟩ := Option.map_eq_some_iff.1 (show (Try.prog.info? 99).map (fun i => i.size) = some 4 by kernel_rfl)
  exact run_eql_ptr_other (a := ⟨a, 0, none⟩) (b := ⟨b, 0, none⟩) w Try.underlying29 hj (by omega) (fun e => hne (congrArg Addr.block e)) ha hb

theorem Held.fr2 {w w' : World} {pb n : Nat} {S : Nat → Stamp} {X : List Nat} (h : Held w pb n S) (hf : Fr X w w') (hpb : pb ∉ X) (hX : ∀ k cs t, k ∈ X → w.heap[k]? = some (.cells cs t (0, 0)) → t ≠ 111 ∧ t ≠ 5) : Held w' pb n S := by
  obtain ⟨B, recV, bp, mc, vio, err, hp, hr, hb⟩ := h.page
  refine ⟨B, recV, bp, mc, vio, err, (hf.block pb (lt_of hp) hpb).trans hp, own_fr hr hf fun g hg hm => ?_, own_fr hb hf fun g hg hm => ?_⟩
  · obtain ⟨cur, hcur⟩ := own_type hr hg
    exact (hX _ _ _ hm hcur).1 rfl
  · obtain ⟨cur, hcur⟩ := own_type hb hg
    exact (hX _ _ _ hm hcur).2 rfl
end Go.Proofs.Qxb6605831a

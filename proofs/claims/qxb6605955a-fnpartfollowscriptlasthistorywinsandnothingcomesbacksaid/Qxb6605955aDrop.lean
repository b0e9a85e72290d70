import Derived.Test.Qxb6605955aGet
import Derived.Test.Qxb6605955aLocks
import Derived.Defers
namespace Go.Proofs.Qxb6605955a
open Go.RowKit Go.MuLone
attribute [local go_sem ↓] Go.wp_at_zero Go.wp_at_succ
set_option linter.unusedSimpArgs false

set_option maxRecDepth 100000 in
set_option maxHeartbeats 800000 in
/-- (*freshness).drop, of a part that is not locked. -/
theorem drop39 (pb sb : Nat) (rdV horV : Value) (mk hist : ByteArray) (tn ts : Int) (w : World) (hp : w.heap[pb]? = some (.cells (pcells sb rdV mk tn ts horV hist) 77 (0, 0))) :
    Calls Try.prog 39 #[.pointer (some ⟨pb, 3, none⟩)] w fun e w' => e = .returned (.tuple #[]) ∧ w'.heap[pb]? = some (.cells (pcells sb (.slice none 0 0) { data := #[] } 0 0 horV hist) 77 (0, 0)) ∧ Fr [pb] w w' := by
  have c3 : w.cell? ⟨pb, 3, none⟩ = some (.int .i32 0) := (cell_of hp 3).trans rfl
  have f3 := free_of hp 3
  have HP := hide hp; clear hp
  go_enter_defers Try.func39, Try.ntmps39
  go_wp2_with fail
  refine (lock_free Try.muLib ⟨pb, 3, none⟩ _ c3 f3).mono ?_
  rintro e w1 ⟨rfl, hw1⟩
  have k1 := set_same HP.out 3 (.int .i32 1)
  rw [← hw1] at k1
  simp only [pcells, scells, List.setIfInBounds_toArray, List.set_cons_zero, List.set_cons_succ] at k1
  have fr1 : Fr [pb] w w1 := by rw [hw1]; exact (Fr.refl _ _).setCell (by simp) _ _
  clear hw1 c3 f3
  have c5 : w1.cell? ⟨pb, 5, none⟩ = some rdV := (cell_of k1 5).trans rfl
  have c6 : w1.cell? ⟨pb, 6, none⟩ = some (.string mk) := (cell_of k1 6).trans rfl
  have c7 : w1.cell? ⟨pb, 7, none⟩ = some (.int .u64 tn) := (cell_of k1 7).trans rfl
  have c8 : w1.cell? ⟨pb, 8, none⟩ = some (.int .i64 ts) := (cell_of k1 8).trans rfl
  have c9 : w1.cell? ⟨pb, 9, none⟩ = some (.pointer none) := (cell_of k1 9).trans rfl
  have f5 := free_of k1 5
  have f6 := free_of k1 6
  have f7 := free_of k1 7
  have f8 := free_of k1 8
  have f9 := free_of k1 9
  have K1 := hide k1; have FR1 := hide fr1
  clear k1 fr1
  go_wp2_with fail
  refine leaves_cons (f := 45) (args := #[.pointer (some ⟨pb, 3, none⟩)]) (by simp) (by simp [go_sem]) ?_
  have k5 := set_same (set_same (set_same (set_same (set_same K1.out 5 (.slice none 0 0)) 6 (.string { data := #[] })) 7 (.int .u64 0)) 8 (.int .i64 0)) 9 (.pointer none)
  simp only [pcells, scells, List.setIfInBounds_toArray, List.set_cons_zero, List.set_cons_succ] at k5
  have fr5 := ((((FR1.out.setCell (b := pb) (by simp) 5 (.slice none 0 0)).setCell (b := pb) (by simp) 6 (.string { data := #[] })).setCell (b := pb) (by simp) 7 (.int .u64 0)).setCell (b := pb) (by simp) 8 (.int .i64 0)).setCell (b := pb) (by simp) 9 (.pointer none)
  refine (unlock_deferred Try.muLib ⟨pb, 3, none⟩ .returning _ ((cell_of k5 3).trans rfl) (free_of k5 3)).mono ?_
  rintro e u' w'' ⟨rfl, rfl, rfl⟩
  have k6 := set_same k5 3 (.int .i32 0)
  simp only [pcells, scells, List.setIfInBounds_toArray, List.set_cons_zero, List.set_cons_succ] at k6
  exact ⟨_, results_none rfl _ _ _, rfl, k6, fr5.setCell (by simp) _ _⟩

set_option maxRecDepth 100000 in
set_option maxHeartbeats 800000 in
/-- (*Store).Drop, of a store that is not locked. -/
theorem drop38 (sb : Nat) (vm : Value) (w : World) (hs : w.heap[sb]? = some (.cells (scells vm) 70 (0, 0))) :
    Calls Try.prog 38 #[.pointer (some ⟨sb, 0, none⟩)] w fun e w' => e = .returned (.tuple #[]) ∧ (∃ vm', w'.heap[sb]? = some (.cells (scells vm') 70 (0, 0))) ∧ Fr [sb] w w' := by
  have c1 : w.cell? ⟨sb, 1, none⟩ = some (.int .i32 0) := (cell_of hs 1).trans rfl
  have f1 := free_of hs 1
  have HS := hide hs; clear hs
  have hmm := @run_makeMap Try.prog
  go_enter_defers Try.func38, Try.ntmps38
  go_wp2_with fail
  refine (lock_free Try.muLib ⟨sb, 1, none⟩ _ c1 f1).mono ?_
  rintro e w1 ⟨rfl, hw1⟩
  have k1 := set_same HS.out 1 (.int .i32 1)
  rw [← hw1] at k1
  simp only [pcells, scells, List.setIfInBounds_toArray, List.set_cons_zero, List.set_cons_succ] at k1
  have fr1 : Fr [sb] w w1 := by rw [hw1]; exact (Fr.refl _ _).setCell (by simp) _ _
  clear hw1 c1 f1
  have hsl : sb < w1.heap.size := lt_of k1
  have c3 : w1.cell? ⟨sb, 3, none⟩ = some (.int .u64 0) := (cell_of k1 3).trans rfl
  have c4 : w1.cell? ⟨sb, 4, none⟩ = some (.int .u64 0) := (cell_of k1 4).trans rfl
  have c5 : w1.cell? ⟨sb, 5, none⟩ = some vm := (cell_of k1 5).trans rfl
  have c6 : w1.cell? ⟨sb, 6, none⟩ = some (.slice none 0 0) := (cell_of k1 6).trans rfl
  have f3 := free_of k1 3
  have f4 := free_of k1 4
  have f5 := free_of k1 5
  have f6 := free_of k1 6
  have K1 := hide k1; have FR1 := hide fr1
  clear k1 fr1
  go_wp2_with fail
  refine leaves_cons (f := 45) (args := #[.pointer (some ⟨sb, 1, none⟩)]) (by simp) (by simp [go_sem]) ?_
  have k5 := set_same (set_same (set_same (set_same K1.out 3 (.int .u64 0)) 4 (.int .u64 0)) 5 (.map (some w1.heap.size))) 6 (.slice none 0 0)
  replace k5 := (old_at (.map #[] 0) (lt_of k5)).trans k5
  simp only [pcells, scells, List.setIfInBounds_toArray, List.set_cons_zero, List.set_cons_succ] at k5
  have fr5 := ((((FR1.out.setCell (b := sb) (by simp) 3 (.int .u64 0)).setCell (b := sb) (by simp) 4 (.int .u64 0)).setCell (b := sb) (by simp) 5 (.map (some w1.heap.size))).setCell (b := sb) (by simp) 6 (.slice none 0 0)).alloc (.map #[] 0)
  refine (unlock_deferred Try.muLib ⟨sb, 1, none⟩ .returning _ ((cell_of k5 1).trans rfl) (free_of k5 1)).mono ?_
  rintro e u' w'' ⟨rfl, rfl, rfl⟩
  have k6 := set_same k5 1 (.int .i32 0)
  simp only [pcells, scells, List.setIfInBounds_toArray, List.set_cons_zero, List.set_cons_succ] at k6
  exact ⟨_, results_none rfl _ _ _, rfl, ⟨.map (some w1.heap.size), k6⟩, fr5.setCell (by simp) _ _⟩
end Go.Proofs.Qxb6605955a

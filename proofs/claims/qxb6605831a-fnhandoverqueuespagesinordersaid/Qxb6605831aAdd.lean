import Derived.Test.Qxb6605831aNew
import Derived.Deep.RegionHeld3
import Derived.Deep.RegionLaw
namespace Go.Proofs.Qxb6605831a
open Go.RowKit

theorem Try.info111 : (Try.prog.info? 111).map (fun i => (i.zero, i.size, i.bytes)) = some (some (.agg #[.int .u8 0, .int .u8 0, .int .u8 0, .int .u32 0, .int .i64 0, .int .i64 0, .int .i64 0]), 7, 32) := by kernel_rfl

theorem keptB {B : Nat} {e : TypeId} {size n : Nat} {v : Value} {xs : List Value} {w0 w1 : World} {o : Obj} (hown : w0.ownsRow B e size v n xs) (hg : (w0.alloc o).drew.grownBy w1 v.ownBlock) {k : Nat} {o' : Obj} (hk : w0.heap[k]? = some o') (hne : ∀ cur, o' ≠ .cells cur e (0, 0)) : w1.heap[k]? = some o' := by
  have hlt := lt_of hk
  rw [hg.block k (by simp; omega) (ownBlock_ne hown hk hne)]
  exact (old_at _ hlt).trans hk

theorem setCell3 (page spare : Value) (infl given handed x : Int) (tb fb sb rb : Nat) : (wcells page spare infl given handed tb fb sb rb).setIfInBounds 3 (.int .i64 x) = wcells page spare infl x handed tb fb sb rb := rfl

theorem add_end {B wb pb n cap g : Nat} {page spare recV bytV vioV errV : Value} {infl given handed : Int} {tb fb sb rb : Nat} {recs news : List Value} {w w0 w1 : World} {o : Obj}
    (hF : Fr (wb :: pb :: recV.ownBlock.toList) w w0) (hne : wb ≠ pb)
    (hw : w1.heap[wb]? = some (.cells (wcells page spare infl given handed tb fb sb rb) 95 (0, 0)))
    (hp : w1.heap[pb]? = some (.cells #[recV, bytV, vioV, errV] 99 (0, 0)))
    (hg : (w0.alloc o).drew.grownBy w1 recV.ownBlock) (hown : w1.ownsRow B 111 7 (.slice (some ⟨g, 0, none⟩) (n + 1) cap) (n + 1) (recs ++ news)) :
    ((w1.setCell ⟨pb, 0, none⟩ (.slice (some ⟨g, 0, none⟩) (n + 1) cap)).setCell ⟨wb, 3, none⟩ (.int .i64 (given + 1))).heap[wb]? = some (.cells (wcells page spare infl (given + 1) handed tb fb sb rb) 95 (0, 0)) ∧
      ((w1.setCell ⟨pb, 0, none⟩ (.slice (some ⟨g, 0, none⟩) (n + 1) cap)).setCell ⟨wb, 3, none⟩ (.int .i64 (given + 1))).heap[pb]? = some (.cells #[.slice (some ⟨g, 0, none⟩) (n + 1) cap, bytV, vioV, errV] 99 (0, 0)) ∧
      ((w1.setCell ⟨pb, 0, none⟩ (.slice (some ⟨g, 0, none⟩) (n + 1) cap)).setCell ⟨wb, 3, none⟩ (.int .i64 (given + 1))).ownsRow B 111 7 (.slice (some ⟨g, 0, none⟩) (n + 1) cap) (n + 1) (recs ++ news) ∧
      Fr (wb :: pb :: recV.ownBlock.toList) w ((w1.setCell ⟨pb, 0, none⟩ (.slice (some ⟨g, 0, none⟩) (n + 1) cap)).setCell ⟨wb, 3, none⟩ (.int .i64 (given + 1))) := by
  have hw' : (w1.setCell ⟨pb, 0, none⟩ (.slice (some ⟨g, 0, none⟩) (n + 1) cap)).heap[wb]? = some (.cells (wcells page spare infl given handed tb fb sb rb) 95 (0, 0)) := (set_other _ _ hne).trans hw
  refine ⟨?_, ?_, ?_, ?_⟩
  · rw [set_same hw', setCell3]
  · rw [set_other _ _ (Ne.symm hne), set_same hp]; rfl
  · have h1 := ownsRow_setCell_other hown (a := ⟨pb, 0, none⟩) (fun e => ownBlock_ne hown hp (by simp) e.symm) (.slice (some ⟨g, 0, none⟩) (n + 1) cap)
    exact ownsRow_setCell_other h1 (a := ⟨wb, 3, none⟩) (fun e => ownBlock_ne h1 hw' (by simp) e.symm) _
  · refine Fr.setCell (Fr.setCell (Fr.grown ((hF.alloc o).drew) hg fun k hk _ => ?_) (by simp) _ _) (by simp) _ _
    rw [hk]; simp

set_option maxRecDepth 100000 in
set_option maxHeartbeats 1000000 in
theorem add37 (B wb pb : Nat) (spare : Value) (infl given handed : Int) (tb fb sb rb : Nat) (recV : Value) (bp : Option Addr) (m mc : Nat) (vioV errV : Value) (n : Nat) (recs : List Value)
    (k0 k1 k2 k3 k4 k5 k6 : Int) (w : World) (hB : B ≤ w.heap.size) (hn : n < 511) (hm : m < 65536) (hg0 : 0 ≤ given) (hg1 : given ≤ 4611686018427389000)
    (hw : w.heap[wb]? = some (.cells (wcells (ptr pb) spare infl given handed tb fb sb rb) 95 (0, 0)))
    (hp : w.heap[pb]? = some (.cells #[recV, .slice bp m mc, vioV, errV] 99 (0, 0)))
    (hown : w.ownsRow B 111 7 recV n recs) :
    Calls Try.prog 37 #[ptr wb, .agg #[.int .u8 k0, .int .u8 k1, .int .u8 k2, .int .u32 k3, .int .i64 k4, .int .i64 k5, .int .i64 k6]] w fun e w' => ∃ g cap, e = .returned .nilIface ∧
      w'.heap[wb]? = some (.cells (wcells (ptr pb) spare infl (given + 1) handed tb fb sb rb) 95 (0, 0)) ∧
      w'.heap[pb]? = some (.cells #[.slice (some ⟨g, 0, none⟩) (n + 1) cap, .slice bp m mc, vioV, errV] 99 (0, 0)) ∧
      w'.ownsRow B 111 7 (.slice (some ⟨g, 0, none⟩) (n + 1) cap) (n + 1) (recs ++ [.int .u8 k0, .int .u8 k1, .int .u8 k2, .int .u32 k3, .int .i64 k4, .int .i64 k5, .int .i64 k6]) ∧
      Fr (wb :: pb :: recV.ownBlock.toList) w w' := by
  have HW := hide hw; have HP := hide hp; have HO := hide hown
  have hm' : (m : Int) < 65536 := by omega
  have hn' : (n : Int) + 1 < 512 := by omega
  clear hm
  have hlw := lt_of hw
  have hlp := lt_of hp
  have c0 : w.cell? ⟨wb, 0, none⟩ = some (.pointer (some ⟨pb, 0, none⟩)) := (cell_of hw 0).trans rfl
  obtain ⟨i0, hi, hz0, hz1, hz2⟩ := info_parts Try.info111
  clear hw hp hown
  show Calls Try.prog 37 #[.pointer (some ⟨wb, 0, none⟩), _] _ _
  go_enter Try.func37, Try.ntmps37
  go_wp2
  generalize hw0 : w.alloc (.cells #[.int .u8 k0, .int .u8 k1, .int .u8 k2, .int .u32 k3, .int .i64 k4, .int .i64 k5, .int .i64 k6] 111) = w0
  have hx : w0.heap[w.heap.size]? = some (.cells #[.int .u8 k0, .int .u8 k1, .int .u8 k2, .int .u32 k3, .int .i64 k4, .int .i64 k5, .int .i64 k6] 111 (0, 0)) := by rw [← hw0, new_at]
  have hs0 : w0.heap.size = w.heap.size + 1 := by rw [← hw0]; simp
  have HO0 : Hid (w0.ownsRow B 111 7 recV n recs) := by rw [← hw0]; exact HO.out.alloc _
  have HF0 : Hid (Fr (wb :: pb :: recV.ownBlock.toList) w w0) := by rw [← hw0]; exact (Fr.refl _ _).alloc _
  have HW0 : Hid (w0.heap[wb]? = some (.cells (wcells (ptr pb) spare infl given handed tb fb sb rb) 95 (0, 0))) := by rw [← hw0, Hid, old_at _ hlw]; exact HW.out
  have HP0 : Hid (w0.heap[pb]? = some (.cells #[recV, .slice bp m mc, vioV, errV] 99 (0, 0))) := by rw [← hw0, Hid, old_at _ hlp]; exact HP.out
  clear hw0 HO HW HP c0
  have q0 : w0.cell? ⟨pb, 0, none⟩ = some recV := (cell_of HP0.out 0).trans rfl
  have q1 : ∀ o : Obj, (w0.alloc o).cell? ⟨pb, 0, none⟩ = some recV := fun o => (World.cell?_of_block (a := ⟨pb, 0, none⟩) (old_at o (lt_of HP0.out))).trans q0
  have x0 : w0.cell? ⟨w.heap.size, 0, none⟩ = some (.int .u8 k0) := (cell_of hx 0).trans rfl
  have x1 : w0.cell? ⟨w.heap.size, 1, none⟩ = some (.int .u8 k1) := (cell_of hx 1).trans rfl
  have x2 : w0.cell? ⟨w.heap.size, 2, none⟩ = some (.int .u8 k2) := (cell_of hx 2).trans rfl
  have x3 : w0.cell? ⟨w.heap.size, 3, none⟩ = some (.int .u32 k3) := (cell_of hx 3).trans rfl
  have x4 : w0.cell? ⟨w.heap.size, 4, none⟩ = some (.int .i64 k4) := (cell_of hx 4).trans rfl
  have x5 : w0.cell? ⟨w.heap.size, 5, none⟩ = some (.int .i64 k5) := (cell_of hx 5).trans rfl
  have x6 : w0.cell? ⟨w.heap.size, 6, none⟩ = some (.int .i64 k6) := (cell_of hx 6).trans rfl
  have HX := hide hx; have HS0 := hide hs0; clear hx hs0
  go_region_law ((refine step_append_lies _ (by rfl) _ _ _ (by rfl) B 111 i0 _ 7 32 Try.underlying96 hi hz0 hz1 hz2 rfl (by omega) recV n recs (by rfl) (by exact (HO0.out.alloc _).drew) ⟨w0.heap.size, 0, none⟩ 1 1 [.int .u8 k0, .int .u8 k1, .int .u8 k2, .int .u32 k3, .int .i64 k4, .int .i64 k5, .int .i64 k6] (by rfl) (by rfl) (World.news_of_block (cs := #[.int .u8 k0, .int .u8 k1, .int .u8 k2, .int .u32 k3, .int .i64 k4, .int .i64 k5, .int .i64 k6]) (t := 111) (fr := (0, 0)) (heap_alloc_new w0 _)) (by simp [Value.oneCell']) (by omega) (by unfold maxLen; omega) (by omega) (by have := HS0.out; simp; omega) (w0.heap.size + 1) (by simp) ?_; intro g cap w1 hown1 hgrow hat hglt; have kw := keptB HO0.out hgrow HW0.out (by simp); have kp := keptB HO0.out hgrow HP0.out (by simp); have c0 : w1.cell? ⟨pb, 0, none⟩ = some recV := (cell_of kp 0).trans rfl; have f0 := free_of kp 0))
  all_goals
    have hne : wb ≠ pb := by
      rintro rfl
      rw [kw] at kp
      simp at kp
    have c1 : w1.cell? ⟨pb, 1, none⟩ = some (.slice bp m mc) := (cell_of kp 1).trans rfl
    have g3 : w1.cell? ⟨wb, 3, none⟩ = some (.int .i64 given) := (cell_of kw 3).trans rfl
    have f3 := free_of kw 3
    have KW := hide kw; have KP := hide kp; have HG := hide hgrow; have HO1 := hide hown1
    clear kw kp hgrow hown1 hat x0 x1 x2 x3 x4 x5 x6 q0 q1
    go_wp2
    go_ret
    exact ⟨g, cap, rfl, add_end HF0.out hne KW.out KP.out HG.out HO1.out⟩
end Go.Proofs.Qxb6605831a

import Derived.Test.Qxb6605955aDrop
namespace Go.Proofs.Qxb6605955a
open Go.RowKit
attribute [local go_sem ↓] Go.wp_at_zero Go.wp_at_succ

/-- A part that dropped all it had. -/
structure Bare (pb sb : Nat) (hist : ByteArray) (w : World) : Prop where
  part : w.heap[pb]? = some (.cells (pcells sb (.slice none 0 0) { data := #[] } 0 0 (.slice none 0 0) hist) 77 (0, 0))
  store : ∃ vm, w.heap[sb]? = some (.cells (scells vm) 70 (0, 0))
theorem Bare.view {pb sb : Nat} {hist : ByteArray} {w : World} (h : Bare pb sb hist w) : View pb hist { data := #[] } 0 0 0 (fun _ => ⟨0, 0⟩) (fun _ => ⟨0, 0⟩) w :=
  ⟨(cell_of h.part 13).trans rfl, (cell_of h.part 6).trans rfl, (cell_of h.part 7).trans rfl, (cell_of h.part 8).trans rfl, (cell_of h.part 9).trans rfl, ⟨none, 0, (cell_of h.part 10).trans rfl, fun i hi => by omega⟩, ⟨none, 0, (cell_of h.part 5).trans rfl, fun i hi => by omega⟩⟩

set_option maxRecDepth 100000 in
set_option maxHeartbeats 800000 in
/-- (*part).follow of the history that it has. -/
theorem follow31_same (pb sb : Nat) (rdV horV : Value) (mk hist hs : ByteArray) (tn ts : Int) (w : World) (he : hs.toList = hist.toList) (hp : w.heap[pb]? = some (.cells (pcells sb rdV mk tn ts horV hist) 77 (0, 0))) :
    Calls Try.prog 31 #[.pointer (some ⟨pb, 0, none⟩), .string hs] w fun e w' => e = .returned (.tuple #[]) ∧ w' = w := by
  have c13 : w.cell? ⟨pb, 13, none⟩ = some (.string hist) := (cell_of hp 13).trans rfl
  have hb : (hs.toList == hist.toList) = true := by simpa using he
  clear hp he
  go_enter Try.func31, Try.ntmps31
  go_wp2_with fail
  exact bodyPost_ret (v := .tuple #[]) (results_none rfl _ _ _) rfl ⟨rfl, rfl⟩

set_option maxRecDepth 100000 in
set_option maxHeartbeats 800000 in
/-- (*part).follow of another history. -/
theorem follow31_other (pb sb : Nat) (rdV horV vm : Value) (mk hist hs : ByteArray) (tn ts : Int) (w : World) (hne : hs.toList ≠ hist.toList) (hp : w.heap[pb]? = some (.cells (pcells sb rdV mk tn ts horV hist) 77 (0, 0))) (hst : w.heap[sb]? = some (.cells (scells vm) 70 (0, 0))) :
    Calls Try.prog 31 #[.pointer (some ⟨pb, 0, none⟩), .string hs] w fun e w' => e = .returned (.tuple #[]) ∧ Bare pb sb hs w' ∧ Fr [pb, sb] w w' := by
  have c0 : w.cell? ⟨pb, 0, none⟩ = some (.pointer (some ⟨sb, 0, none⟩)) := (cell_of hp 0).trans rfl
  have c13 : w.cell? ⟨pb, 13, none⟩ = some (.string hist) := (cell_of hp 13).trans rfl
  have hps : pb ≠ sb := ne_of_types hp hst (by decide)
  have hb : (hs.toList == hist.toList) = false := by simpa using hne
  have HP := hide hp; have HST := hide hst; have HPS := hide hps
  clear hp hst hps
  go_enter Try.func31, Try.ntmps31
  go_wp2_with fail
  refine (drop38 sb vm w HST.out).mono ?_
  rintro e w1 ⟨rfl, ⟨vm1, hs1⟩, fr1⟩
  have p1 : w1.heap[pb]? = _ := (fr1.block pb (lt_of HP.out) (by have := HPS.out; simpa using this)).trans HP.out
  have S1 := hide hs1; have P1 := hide p1; have FR1 := hide fr1
  clear hs1 p1 fr1 c0 c13
  go_wp2_with fail
  refine (drop39 pb sb rdV horV mk hist tn ts w1 P1.out).mono ?_
  rintro e w2 ⟨rfl, p2, fr2⟩
  have s2 := (fr2.block sb (lt_of S1.out) (by have := HPS.out; simp; exact fun e => this e.symm)).trans S1.out
  have c10 : w2.cell? ⟨pb, 10, none⟩ = some horV := (cell_of p2 10).trans rfl
  have c13 : w2.cell? ⟨pb, 13, none⟩ = some (.string hist) := (cell_of p2 13).trans rfl
  have f10 := free_of p2 10
  have f13 := free_of p2 13
  have P2 := hide p2; have S2 := hide s2; have FR2 := hide fr2
  clear p2 s2 fr2
  go_wp2_with fail
  have k1 := set_same P2.out 10 (.slice none 0 0)
  have k2 := set_same k1 13 (.string hs)
  simp only [pcells, List.setIfInBounds_toArray, List.set_cons_zero, List.set_cons_succ] at k2
  refine bodyPost_end (v := .tuple #[]) (results_none rfl _ _ _) rfl ⟨rfl, ⟨k2, ⟨vm1, ?_⟩⟩, ?_⟩
  · exact ((set_other 13 _ (fun e => HPS.out e.symm)).trans (set_other 10 _ (fun e => HPS.out e.symm))).trans S2.out
  · have g1 : Fr [pb, sb] w w1 := FR1.out.mono (fun k _ h => by simp at h ⊢; exact .inr h)
    have g2 : Fr [pb, sb] w1 w2 := FR2.out.mono (fun k _ h => by simp at h ⊢; exact .inl h)
    exact ((g1.trans g2).setCell (by simp) _ _).setCell (by simp) _ _

set_option maxRecDepth 100000 in
/-- ZZpartFollow. -/
theorem follow18_same (pb sb : Nat) (rdV horV : Value) (mk hist hs : ByteArray) (tn ts : Int) (w : World) (he : hs.toList = hist.toList) (hp : w.heap[pb]? = some (.cells (pcells sb rdV mk tn ts horV hist) 77 (0, 0))) :
    Calls Try.prog 18 #[.pointer (some ⟨pb, 0, none⟩), .string hs] w fun e w' => e = .returned (.tuple #[]) ∧ w' = w := by
  have H := hide (follow31_same pb sb rdV horV mk hist hs tn ts w he hp)
  clear hp
  go_enter Try.func18, Try.ntmps18
  go_wp2_with fail
  refine H.out.mono ?_
  rintro e w1 ⟨rfl, rfl⟩
  go_wp2_with fail
  exact bodyPost_end (v := .tuple #[]) (results_none rfl _ _ _) rfl ⟨rfl, rfl⟩
set_option maxRecDepth 100000 in
theorem follow18_other (pb sb : Nat) (rdV horV vm : Value) (mk hist hs : ByteArray) (tn ts : Int) (w : World) (hne : hs.toList ≠ hist.toList) (hp : w.heap[pb]? = some (.cells (pcells sb rdV mk tn ts horV hist) 77 (0, 0))) (hst : w.heap[sb]? = some (.cells (scells vm) 70 (0, 0))) :
    Calls Try.prog 18 #[.pointer (some ⟨pb, 0, none⟩), .string hs] w fun e w' => e = .returned (.tuple #[]) ∧ Bare pb sb hs w' ∧ Fr [pb, sb] w w' := by
  have H := hide (follow31_other pb sb rdV horV vm mk hist hs tn ts w hne hp hst)
  clear hp hst
  go_enter Try.func18, Try.ntmps18
  go_wp2_with fail
  refine H.out.mono ?_
  rintro e w1 ⟨rfl, h1, h2⟩
  go_wp2_with fail
  exact bodyPost_end (v := .tuple #[]) (results_none rfl _ _ _) rfl ⟨rfl, h1, h2⟩
end Go.Proofs.Qxb6605955a

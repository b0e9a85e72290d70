import Derived.Test.Qxb6605831aHand
namespace Go.Proofs.Qxb6605831a
open Go.RowKit Go.Conc

set_option maxRecDepth 100000 in
/-- ZZReceiveHanded: the eldest page of the channel. -/
theorem recv15 (wb tb cap s r : Nat) (buf : Array Value) (v : Value) (w : World) (h6 : w.cell? ⟨wb, 6, none⟩ = some (.chan (some tb))) (hc : w.heap[tb]? = some (.chan cap buf false s r false)) (hv : buf[0]? = some v) :
    Calls Try.prog 15 #[.pointer (some ⟨wb, 0, none⟩)] w fun e w' => e = .returned v ∧ w' = w.setChan tb cap (buf.extract 1 buf.size) false s (r + 1) false := by
  have hs : 0 < buf.size := by
    rcases Nat.lt_or_ge 0 buf.size with h | h
    · exact h
    · rw [Array.getElem?_eq_none h] at hv; cases hv
  have hv' : buf.getD 0 undef = v := by simp [hv]
  refine calls_of_loneTo fun cs => ?_
  have e : Frame.enter Try.prog 15 #[.pointer (some ⟨wb, 0, none⟩)] .normal = (base 15).at ⟨#[.pointer (some ⟨wb, 0, none⟩), undef, undef, undef, undef, undef, undef, undef], []⟩ [.code (Try.f15.body.getD .skip)] := by
    simp [Frame.enter, Frame.at, Try.func15, base, Try.f15]
  rw [e]
  refine LoneTo.goes (n := 10) ?_
  simp only [Try.f15, Option.getD_some]
  s_c stepG_seq
  s_reg
  s_op
  s_c stepG_region_end
  s_c stepG_seq
  s_reg
  s_op
  s_op
  s_op
  s_op
  s_stop
  refine LoneTo.step (step_lone_recv_buf false (c := tb) (z := .pointer none) (stepG_comm (cases := #[rcase tb (.pointer none)]) (blocking := true) (shape := .recv false) (w' := w) rfl rfl (by decide) (by simp [go_sem, rcase])) hc hs) ?_
  rw [Frame.finish_at, hv']
  simp only [got]
  walk_nrm
  refine LoneTo.goes (n := 3) ?_
  s_op
  s_c stepG_region_end
  s_c stepG_ret'
  s_stop
  exact LoneTo.done ⟨.returned v, _, rfl, ⟨rfl, rfl⟩, rfl, rfl, rfl, rfl, _, Try.func15, by simp [results, Try.f15, Frame.at]⟩

theorem hand13 (wb : Nat) (w : World) (R : Ending → World → Prop) (h : Calls Try.prog 31 #[.pointer (some ⟨wb, 0, none⟩)] w fun e w' => e = .returned (.tuple #[]) ∧ R (.returned (.tuple #[])) w') : Calls Try.prog 13 #[.pointer (some ⟨wb, 0, none⟩)] w R := by
  have H := hide h; clear h
  go_enter Try.func13, Try.ntmps13
  go_wp2_with fail
  refine H.out.mono ?_
  rintro e w' ⟨rfl, hR⟩
  have HR := hide hR; clear hR
  go_wp2
  go_end0
  exact HR.out
end Go.Proofs.Qxb6605831a

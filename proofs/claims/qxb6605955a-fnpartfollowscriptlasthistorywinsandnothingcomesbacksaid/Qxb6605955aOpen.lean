import Derived.Test.Qxb6605955aNew
import Derived.ProofKit
import Derived.Deep.Slices
namespace Go.Proofs.Qxb6605955a
open Go.ChangeShapes Go.WideShapes Go.ChangeAt Go.RowKit Go.Deep

theorem Try.cells48 : Try.prog.cellsOf 48 = 2 := by kernel_rfl
theorem Try.cells2 : Try.prog.cellsOf 2 = 1 := by kernel_rfl
theorem Try.cells45 : Try.prog.cellsOf 45 = 1 := by kernel_rfl
theorem wf64 {z : Int} (h : (Lit.int .i64 z).wf = true) : -9223372036854775808 ≤ z ∧ z ≤ 9223372036854775807 := by
  have h1 : IntKind.i64.min = -9223372036854775808 := rfl
  have h2 : IntKind.i64.max = 9223372036854775807 := rfl
  simp only [Lit.wf, h1, h2, Bool.and_eq_true, decide_eq_true_eq] at h
  exact h

section
variable {H : Type} {enc : TypeId × Value → H} {w : World} {base : Nat} {spare : Nat → Bool} {held : Bool}
set_option maxRecDepth 100000 in
theorem open_rd {fuel : Nat} {cs : List Value} {x : DataW H × List MemPlace} (h : DataW.trod enc Try.prog w base spare held fuel 48 cs = some x) :
    ∃ r : Rd, cs = [.int .i64 r.at_, .int .u64 r.ts] ∧ -9223372036854775808 ≤ r.at_ ∧ r.at_ ≤ 9223372036854775807 := by
  obtain ⟨xs, n, rfl, rfl, hlen, hxs, hf⟩ := DataW.trod_struct Try.underlying48 h
  rw [Try.cells48] at hlen
  match cs, hlen with
  | [c0, c1], _ =>
    have f0 : DataW.trod enc Try.prog w base spare held n 2 (([c0, c1].drop 0).take (Try.prog.cellsOf 2)) = xs[0]? := hf 0 _ rfl
    have f1 : DataW.trod enc Try.prog w base spare held n 45 (([c0, c1].drop 1).take (Try.prog.cellsOf 45)) = xs[1]? := hf 1 _ rfl
    simp only [Try.cells2, Try.cells45, List.drop_zero, List.drop_succ_cons, List.take_succ_cons, List.take_zero] at f0 f1
    have hsz : xs.length = 2 := hxs
    rw [List.getElem?_eq_getElem (by omega)] at f0 f1
    obtain ⟨a0, e0, _, hw⟩ := DataW.trod_int Try.underlying2 f0
    obtain ⟨a1, e1, _⟩ := DataW.trod_int Try.underlying45 f1
    simp at e0 e1
    subst e0 e1
    exact ⟨⟨a0, a1⟩, rfl, (wf64 hw).1, (wf64 hw).2⟩

theorem open_rds {v : Value} {fuel : Nat} {x : DataW H × List MemPlace} (h : DataW.trod enc Try.prog w base spare held fuel 34 [v] = some x) :
    ∃ a n c R, v = .slice a n c ∧ InR R n ∧ Rds w a n R := by
  rcases open_slice Try.underlying34 h with ⟨hcs, _⟩ | ⟨a, len, cap, m, f, D, Pl, hcs, _, hl, hm, hmm, _, hV⟩
  · simp at hcs
    exact ⟨none, 0, 0, fun _ => ⟨0, 0⟩, hcs, fun i hi => absurd hi (Nat.not_lt_zero _), fun j hj => absurd hj (Nat.not_lt_zero _)⟩
  · simp at hcs
    have hle : len ≤ m := by rw [hmm]; split <;> omega
    rw [Try.cells48] at hV
    have key : ∀ i, i < len → ∃ r : Rd, (-9223372036854775808 ≤ r.at_ ∧ r.at_ ≤ 9223372036854775807) ∧ (∀ j, j < 2 → w.cell? (a.add (i * 2 + j)) = [Value.int .i64 r.at_, .int .u64 r.ts][j]?) := fun i hi => by
      obtain ⟨cs', h1, h2⟩ := hV i (by omega)
      obtain ⟨r, rfl, hr⟩ := open_rd h2
      refine ⟨r, hr, fun j hj => ?_⟩
      rw [← add_add]
      exact (World.cells?_some h1).2.2 j hj
    have : Inhabited Rd := ⟨⟨0, 0⟩⟩
    obtain ⟨R, hR⟩ := choose_lt (α := Rd) key
    refine ⟨some a, len, cap, R, hcs, fun i hi => (hR i hi).1, fun i hi => ?_⟩
    obtain ⟨_, hc⟩ := hR i hi
    obtain ⟨b, off, spot⟩ := a
    have hs0 : spot = none := by
      obtain ⟨_, hc'⟩ := hR 0 (by omega)
      have h0 := hc' 0 (by omega)
      simp [Addr.add] at h0
      have := World.cell?_spot h0
      simpa using this
    subst hs0
    refine ⟨b, off, rfl, ?_⟩
    have g0 := hc 0 (by omega)
    have g1 := hc 1 (by omega)
    rw [add_plain, ← Nat.add_assoc] at g0 g1
    exact ⟨g0, g1⟩
end
end Go.Proofs.Qxb6605955a

import Derived.Test.Qxb6605955aOpen
import Derived.Test.Qxb6605955aBytes
import Derived.Deep.Strs
namespace Go.Proofs.Qxb6605955a
open Go.ChangeShapes Go.WideShapes Go.ChangeAt Go.RowKit
theorem Try.cells9 : Try.prog.cellsOf 9 = 1 := by kernel_rfl
theorem open_strs5 {H : Type} {enc : TypeId × Value → H} {w : World} {base : Nat} {spare : Nat → Bool} {held : Bool} {fuel n c : Nat} {a : Option Addr} {x : DataW H × List MemPlace} (h : DataW.trod enc Try.prog w base spare held fuel 50 [.slice a n c] = some x) : ∃ S, Strs w a n S := by
  rcases Go.Deep.open_strs Try.underlying50 Try.underlying9 Try.cells9 h with ⟨hcs, _⟩ | ⟨a', len, cap, m, Sx, hcs, _, hl, hm, hmm, _, hrest⟩
  · simp at hcs
    obtain ⟨rfl, rfl, rfl⟩ := hcs
    exact ⟨fun _ => { data := #[] }, fun i hi => absurd hi (Nat.not_lt_zero _)⟩
  · simp at hcs
    obtain ⟨rfl, rfl, rfl⟩ := hcs
    have hle : n ≤ m := by rw [hmm]; split <;> omega
    refine ⟨Sx, fun i hi => ?_⟩
    have hc := (hrest i (by omega)).1
    obtain ⟨b, off, spot⟩ := a'
    have hs0 : spot = none := by
      have := World.cell?_spot (hrest 0 (by omega)).1
      simpa [Addr.add] using this
    subst hs0
    exact ⟨b, off, rfl, by rw [add_plain] at hc; exact hc⟩

end Go.Proofs.Qxb6605955a

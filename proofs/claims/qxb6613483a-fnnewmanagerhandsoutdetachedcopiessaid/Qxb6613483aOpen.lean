import Derived.Test.Qxb6613483aSmall
import Derived.Deep.Strs
import Derived.ChangeSlices
namespace Go.Proofs.Qxb6613483a
open Go.ChangeShapes Go.WideShapes Go.RowKit
theorem Try.cells9 : Try.prog.cellsOf 9 = 1 := by kernel_rfl
theorem Try.cells3 : Try.prog.cellsOf 3 = 1 := by kernel_rfl
theorem add_plain (b off i : Nat) : (⟨b, off, none⟩ : Addr).add i = ⟨b, off + i, none⟩ := by simp [Addr.add]

theorem open_strs22 {H : Type} {enc : TypeId × Value → H} {w : World} {base : Nat} {spare : Nat → Bool} {held : Bool} {fuel n c : Nat} {a : Option Addr} {x : DataW H × List MemPlace} (h : DataW.trod enc Try.prog w base spare held fuel 22 [.slice a n c] = some x) : ∃ S, Strs w a n S ∧ (∀ i, i < n → (S i).size ≤ maxLen) ∧ n ≤ c := by
  rcases Go.Deep.open_strs Try.underlying22 Try.underlying9 Try.cells9 h with ⟨hcs, _⟩ | ⟨a', len, cap, m, Sx, hcs, _, hl, hm, hmm, _, hrest⟩
  · simp at hcs
    obtain ⟨rfl, rfl, rfl⟩ := hcs
    exact ⟨fun _ => { data := #[] }, fun i hi => absurd hi (Nat.not_lt_zero _), fun i hi => absurd hi (Nat.not_lt_zero _), Nat.le_refl _⟩
  · simp at hcs
    obtain ⟨rfl, rfl, rfl⟩ := hcs
    have hle : n ≤ m := by rw [hmm]; split <;> omega
    refine ⟨Sx, fun i hi => ?_, fun i hi => (hrest i (by omega)).2, hl⟩
    have hc := (hrest i (by omega)).1
    obtain ⟨b, off, spot⟩ := a'
    have hs0 : spot = none := by
      have := World.cell?_spot (hrest 0 (by omega)).1
      simpa [Addr.add] using this
    subst hs0
    exact ⟨b, off, rfl, by rw [add_plain] at hc; exact hc⟩

theorem open_ints23 {H : Type} {enc : TypeId × Value → H} {w : World} {base : Nat} {spare : Nat → Bool} {held : Bool} {fuel n c : Nat} {a : Option Addr} {x : DataW H × List MemPlace} (h : DataW.trod enc Try.prog w base spare held fuel 23 [.slice a n c] = some x) : ∃ Z, Ints w a n Z := by
  rcases open_ints Try.underlying23 Try.underlying3 Try.cells3 h with ⟨hcs, _⟩ | ⟨a', len, cap, zs, hcs, _, hl, hm, hmm, _, hrest, _⟩
  · simp at hcs
    obtain ⟨rfl, rfl, rfl⟩ := hcs
    exact ⟨fun _ => 0, fun i hi => absurd hi (Nat.not_lt_zero _)⟩
  · simp at hcs
    obtain ⟨rfl, rfl, rfl⟩ := hcs
    have hle : n ≤ zs.length := by rw [hmm]; split <;> omega
    refine ⟨fun i => zs.getD i 0, fun i hi => ?_⟩
    have hc := hrest i (by omega)
    obtain ⟨b, off, spot⟩ := a'
    have hs0 : spot = none := by
      have := World.cell?_spot (hrest 0 (by omega))
      simpa [Addr.add] using this
    subst hs0
    exact ⟨b, off, rfl, by rw [add_plain] at hc; exact hc⟩
end Go.Proofs.Qxb6613483a

import Derived.Test.Qxb6605831aStamps
import Derived.ProofKit
import Derived.Deep.Slices
namespace Go.Proofs.Qxb6605831a
open Go.ChangeShapes Go.WideShapes Go.ChangeAt Go.RowKit Go.Deep

theorem Try.cells5 : Try.prog.cellsOf 5 = 1 := by kernel_rfl
theorem Try.cells43 : Try.prog.cellsOf 43 = 5 := by kernel_rfl
theorem Try.cells41 : Try.prog.cellsOf 41 = 1 := by kernel_rfl
theorem Try.cells3 : Try.prog.cellsOf 3 = 1 := by kernel_rfl
theorem Try.cells35 : Try.prog.cellsOf 35 = 1 := by kernel_rfl

section
variable {H : Type} {enc : TypeId × Value → H} {w : World} {base : Nat} {spare : Nat → Bool} {held : Bool}

theorem open_bytes {fuel : Nat} {cs : List Value} {x : DataW H × List MemPlace} (h : DataW.trod enc Try.prog w base spare held fuel 35 cs = some x) :
    ∃ p n c Z, cs = [.slice p n c] ∧ n ≤ maxLen ∧ Bytes w p n Z := by
  rcases open_slice1 Try.underlying35 Try.cells5 h with ⟨rfl, _⟩ | ⟨a, len, cap, m, f, V, D, Pl, rfl, _, hl, hm, hmm, _, hV⟩
  · exact ⟨none, 0, 0, fun _ => 0, rfl, by simp [maxLen], fun _ => rfl, fun j hj => absurd hj (Nat.not_lt_zero _)⟩
  · have hle : len ≤ m := by rw [hmm]; split <;> omega
    obtain ⟨Z, hZ⟩ := choose_lt (α := Int) (n := len) (p := fun i z => V i = .int .u8 z) (fun i hi => by
      obtain ⟨n, e, _⟩ := DataW.trod_int Try.underlying5 (hV i (by omega)).2
      exact ⟨n, by simpa using e⟩)
    refine ⟨some a, len, cap, Z, rfl, by omega, (fun h => nomatch h), fun j hj => ?_⟩
    have hc := (hV j (by omega)).1
    have hs := World.cell?_spot hc
    obtain ⟨b, off, spot⟩ := a
    have hs0 : spot = none := by
      have := World.cell?_spot (hV 0 (by omega)).1
      simpa [Addr.add] using this
    subst hs0
    refine ⟨b, off, rfl, ?_⟩
    rw [add_plain, hZ j hj] at hc
    exact hc

set_option maxRecDepth 100000 in
theorem open_stamp {fuel : Nat} {cs : List Value} {x : DataW H × List MemPlace} (h : DataW.trod enc Try.prog w base spare held fuel 43 cs = some x) :
    ∃ (s : Stamp) (p : Option Addr) (c : Nat), cs = [.int .u32 s.spi, .int .u8 s.lsn, .int .i64 s.frame, .int .u8 s.typ, .slice p s.len c] ∧ s.len ≤ maxLen ∧ Bytes w p s.len s.bytes := by
  obtain ⟨xs, n, rfl, rfl, hlen, hxs, hf⟩ := DataW.trod_struct Try.underlying43 h
  rw [Try.cells43] at hlen
  match cs, hlen with
  | [c0, c1, c2, c3, c4], _ =>
    have f0 : DataW.trod enc Try.prog w base spare held n 41 (([c0, c1, c2, c3, c4].drop 0).take (Try.prog.cellsOf 41)) = xs[0]? := hf 0 _ rfl
    have f1 : DataW.trod enc Try.prog w base spare held n 5 (([c0, c1, c2, c3, c4].drop 1).take (Try.prog.cellsOf 5)) = xs[1]? := hf 1 _ rfl
    have f2 : DataW.trod enc Try.prog w base spare held n 3 (([c0, c1, c2, c3, c4].drop 2).take (Try.prog.cellsOf 3)) = xs[2]? := hf 2 _ rfl
    have f3 : DataW.trod enc Try.prog w base spare held n 5 (([c0, c1, c2, c3, c4].drop 3).take (Try.prog.cellsOf 5)) = xs[3]? := hf 3 _ rfl
    have f4 : DataW.trod enc Try.prog w base spare held n 35 (([c0, c1, c2, c3, c4].drop 4).take (Try.prog.cellsOf 35)) = xs[4]? := hf 4 _ rfl
    simp only [Try.cells41, Try.cells5, Try.cells3, Try.cells35, List.drop_zero, List.drop_succ_cons, List.take_succ_cons, List.take_zero] at f0 f1 f2 f3 f4
    have hsz : xs.length = 5 := hxs
    rw [List.getElem?_eq_getElem (by omega)] at f0 f1 f2 f3 f4
    obtain ⟨a0, e0, _⟩ := DataW.trod_int Try.underlying41 f0
    obtain ⟨a1, e1, _⟩ := DataW.trod_int Try.underlying5 f1
    obtain ⟨a2, e2, _⟩ := DataW.trod_int Try.underlying3 f2
    obtain ⟨a3, e3, _⟩ := DataW.trod_int Try.underlying5 f3
    obtain ⟨p, l, c, Z, e4, hl, hb⟩ := open_bytes f4
    simp at e0 e1 e2 e3 e4
    subst e0 e1 e2 e3 e4
    exact ⟨⟨a0, a1, a2, a3, l, Z⟩, p, c, rfl, hl, hb⟩

theorem open_stamps {v : Value} {fuel : Nat} {x : DataW H × List MemPlace} (h : DataW.trod enc Try.prog w base spare held fuel 22 [v] = some x) :
    ∃ a n c S, v = .slice a n c ∧ n ≤ maxLen ∧ (∀ i, i < n → (S i).len ≤ maxLen) ∧ Stamps w a n S := by
  rcases open_slice Try.underlying22 h with ⟨hcs, _⟩ | ⟨a, len, cap, m, f, D, Pl, hcs, _, hl, hm, hmm, _, hV⟩
  · simp at hcs
    exact ⟨none, 0, 0, fun _ => ⟨0, 0, 0, 0, 0, fun _ => 0⟩, hcs, by simp [maxLen], fun i hi => absurd hi (Nat.not_lt_zero _), fun _ => rfl, fun j hj => absurd hj (Nat.not_lt_zero _)⟩
  · simp at hcs
    have hle : len ≤ m := by rw [hmm]; split <;> omega
    rw [Try.cells43] at hV
    have key : ∀ i, i < len → ∃ s : Stamp, s.len ≤ maxLen ∧ ∃ p c, (∀ j, j < 5 → w.cell? (a.add (i * 5 + j)) = [Value.int .u32 s.spi, .int .u8 s.lsn, .int .i64 s.frame, .int .u8 s.typ, .slice p s.len c][j]?) ∧ Bytes w p s.len s.bytes := fun i hi => by
      obtain ⟨cs', h1, h2⟩ := hV i (by omega)
      obtain ⟨s, p, c, rfl, hl, hb⟩ := open_stamp h2
      refine ⟨s, hl, p, c, fun j hj => ?_, hb⟩
      rw [← add_add]
      exact (World.cells?_some h1).2.2 j hj
    have : Inhabited Stamp := ⟨⟨0, 0, 0, 0, 0, fun _ => 0⟩⟩
    obtain ⟨S, hS⟩ := choose_lt (α := Stamp) key
    refine ⟨some a, len, cap, S, hcs, by omega, fun i hi => (hS i hi).1, (fun h => nomatch h), fun i hi => ?_⟩
    obtain ⟨_, p, c, hc, hb⟩ := hS i hi
    obtain ⟨b, off, spot⟩ := a
    have hs0 : spot = none := by
      obtain ⟨_, p', c', hc', _⟩ := hS 0 (by omega)
      have h0 := hc' 0 (by omega)
      simp [Addr.add] at h0
      have := World.cell?_spot h0
      simpa using this
    subst hs0
    refine ⟨b, off, p, c, rfl, ?_, hb⟩
    have g0 := hc 0 (by omega)
    have g1 := hc 1 (by omega)
    have g2 := hc 2 (by omega)
    have g3 := hc 3 (by omega)
    have g4 := hc 4 (by omega)
    rw [add_plain, ← Nat.add_assoc] at g0 g1 g2 g3 g4
    exact ⟨g0, g1, g2, g3, g4⟩
end
end Go.Proofs.Qxb6605831a

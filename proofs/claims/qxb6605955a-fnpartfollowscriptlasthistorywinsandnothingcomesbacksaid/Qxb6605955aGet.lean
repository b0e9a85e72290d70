import Derived.Test.Qxb6605955aNew
namespace Go.Proofs.Qxb6605955a
open Go.RowKit
attribute [local go_sem ↓] Go.wp_at_zero Go.wp_at_succ

/-- A field that holds n readings. -/
def RowAt (pb f n : Nat) (R : Nat → Rd) (w : World) : Prop :=
  ∃ (a : Option Addr) (c : Nat), w.cell? ⟨pb, f, none⟩ = some (.slice a n c) ∧ ∀ i, i < n → ∃ g, a = some ⟨g, 0, none⟩ ∧
    w.cell? ⟨g, i * 4, none⟩ = some (.int .u64 ((R i).at_ % 1000000000)) ∧ w.cell? ⟨g, i * 4 + 1, none⟩ = some (.int .i64 ((R i).at_ / 1000000000)) ∧ w.cell? ⟨g, i * 4 + 2, none⟩ = some (.pointer none) ∧ w.cell? ⟨g, i * 4 + 3, none⟩ = some (.int .u64 (R i).ts)
/-- What the getters see. -/
structure View (pb : Nat) (hist mk : ByteArray) (mat : Int) (n m : Nat) (H R : Nat → Rd) (w : World) : Prop where
  his : w.cell? ⟨pb, 13, none⟩ = some (.string hist)
  mark : w.cell? ⟨pb, 6, none⟩ = some (.string mk)
  at0 : w.cell? ⟨pb, 7, none⟩ = some (.int .u64 (mat % 1000000000))
  at1 : w.cell? ⟨pb, 8, none⟩ = some (.int .i64 (mat / 1000000000))
  at2 : w.cell? ⟨pb, 9, none⟩ = some (.pointer none)
  hor : RowAt pb 10 n H w
  red : RowAt pb 5 m R w

theorem kept {w w' : World} (h : Below w.heap.size w w') {a : Addr} {v : Value} (hc : w.cell? a = some v) : w'.cell? a = some v := (h.cell (World.block_lt_of_cell? _ _ hc)).trans hc
theorem RowAt.below {pb f n : Nat} {R : Nat → Rd} {w w' : World} (h : RowAt pb f n R w) (hb : Below w.heap.size w w') : RowAt pb f n R w' := by
  obtain ⟨a, c, h1, h2⟩ := h
  refine ⟨a, c, kept hb h1, fun i hi => ?_⟩
  obtain ⟨g, e, c0, c1, c2, c3⟩ := h2 i hi
  exact ⟨g, e, kept hb c0, kept hb c1, kept hb c2, kept hb c3⟩
theorem View.below {pb n m : Nat} {hist mk : ByteArray} {mat : Int} {H R : Nat → Rd} {w w' : World} (h : View pb hist mk mat n m H R w) (hb : Below w.heap.size w w') : View pb hist mk mat n m H R w' :=
  ⟨kept hb h.his, kept hb h.mark, kept hb h.at0, kept hb h.at1, kept hb h.at2, h.hor.below hb, h.red.below hb⟩

theorem rdTo_len (R : Nat → Rd) : ∀ n, (rdTo R n).length = n * 4
  | 0 => rfl
  | n + 1 => by simp only [rdTo, List.length_append, rdTo_len R n, rdCell, List.length_cons, List.length_nil]; omega
theorem rdTo_get (R : Nat → Rd) (j : Nat) (hj : j < 4) : ∀ n i, i < n → (rdTo R n)[i * 4 + j]? = (rdCell (R i))[j]?
  | 0, i, h => by omega
  | n + 1, i, h => by
    by_cases e : i = n
    · subst e
      rw [rdTo, List.getElem?_append_right (by rw [rdTo_len]; omega), rdTo_len]
      congr 1; omega
    · rw [rdTo, List.getElem?_append_left (by rw [rdTo_len]; omega)]
      exact rdTo_get R j hj n i (by omega)
theorem own_get {w : World} {g n : Nat} {cur : Array Value} {R : Nat → Rd} (hh : w.heap[g]? = some (.cells cur 80 (0, 0))) (ht : cur.toList.take (n * 4) = rdTo R n) (i j : Nat) (hi : i < n) (hj : j < 4) : w.cell? ⟨g, i * 4 + j, none⟩ = (rdCell (R i))[j]? := by
  rw [cell_of hh, ← rdTo_get R j hj n i hi, ← ht, List.getElem?_take, if_pos (by omega), Array.getElem?_toList]
theorem RowAt.of {pb f n B : Nat} {R : Nat → Rd} {v : Value} {w : World} (hc : w.cell? ⟨pb, f, none⟩ = some v) (h : w.ownsRow B 80 4 v n (rdTo R n)) : RowAt pb f n R w := by
  rcases h.2 with ⟨rfl, rfl⟩ | ⟨g, cap, cur, rfl, _, hh, _, _, _, ht⟩
  · exact ⟨none, 0, hc, fun i hi => by omega⟩
  · refine ⟨_, _, hc, fun i hi => ⟨g, rfl, ?_, ?_, ?_, ?_⟩⟩
    · exact own_get hh ht i 0 hi (by omega)
    · exact own_get hh ht i 1 hi (by omega)
    · exact own_get hh ht i 2 hi (by omega)
    · exact own_get hh ht i 3 hi (by omega)
theorem Part.view {pb sb n m : Nat} {hist mk : ByteArray} {mat : Int} {H R : Nat → Rd} {vm : Value} {w : World} (h : Part pb sb hist mk mat n m H R vm w) : View pb hist mk mat n m H R w := by
  obtain ⟨horV, rdV, B1, B2, hp, h1, h2⟩ := h.rows
  exact ⟨(cell_of hp 13).trans rfl, (cell_of hp 6).trans rfl, (cell_of hp 7).trans rfl, (cell_of hp 8).trans rfl, (cell_of hp 9).trans rfl, RowAt.of ((cell_of hp 10).trans rfl) h1, RowAt.of ((cell_of hp 5).trans rfl) h2⟩

section
variable {pb n m : Nat} {hist mk : ByteArray} {mat : Int} {H R : Nat → Rd} {w : World}
set_option maxRecDepth 100000 in
theorem get19 (h : View pb hist mk mat n m H R w) : Calls Try.prog 19 #[.pointer (some ⟨pb, 0, none⟩)] w fun e w' => e = .returned (.string hist) ∧ w' = w := by
  have c := h.his
  clear h
  go_enter Try.func19, Try.ntmps19
  go_wp2
  go_ret
  exact ⟨rfl, rfl⟩
set_option maxRecDepth 100000 in
theorem get20 (h : View pb hist mk mat n m H R w) : Calls Try.prog 20 #[.pointer (some ⟨pb, 0, none⟩)] w fun e w' => e = .returned (.int .i64 n) ∧ w' = w := by
  obtain ⟨a, c, hc, _⟩ := h.hor
  clear h
  go_enter Try.func20, Try.ntmps20
  go_wp2
  go_ret
  exact ⟨rfl, rfl⟩
set_option maxRecDepth 100000 in
theorem get21 (h : View pb hist mk mat n m H R w) : Calls Try.prog 21 #[.pointer (some ⟨pb, 0, none⟩)] w fun e w' => e = .returned (.int .i64 m) ∧ w' = w := by
  obtain ⟨a, c, hc, _⟩ := h.red
  clear h
  go_enter Try.func21, Try.ntmps21
  go_wp2
  go_ret
  exact ⟨rfl, rfl⟩
set_option maxRecDepth 100000 in
theorem get22 (h : View pb hist mk mat n m H R w) : Calls Try.prog 22 #[.pointer (some ⟨pb, 0, none⟩)] w fun e w' => e = .returned (.string mk) ∧ w' = w := by
  have c := h.mark
  clear h
  go_enter Try.func22, Try.ntmps22
  go_wp2
  go_ret
  exact ⟨rfl, rfl⟩
set_option maxRecDepth 100000 in
theorem get23 (h : View pb hist mk mat n m H R w) (h0 : -9223372036854775808 ≤ mat) (h1 : mat ≤ 9223372036854775807) : Calls Try.prog 23 #[.pointer (some ⟨pb, 0, none⟩)] w fun e w' => e = .returned (.int .i64 mat) ∧ Below w.heap.size w w' := by
  have HS := hide (sub32 mat w h0 h1)
  have c0 := h.at0
  have c1 := h.at1
  have c2 := h.at2
  clear h h0 h1
  go_enter Try.func23, Try.ntmps23
  go_wp2_with fail
  refine HS.out.mono ?_
  rintro e w' ⟨rfl, hb⟩
  go_wp2_with fail
  go_ret
  exact ⟨rfl, hb⟩
set_option maxRecDepth 100000 in
theorem get24 (h : View pb hist mk mat n m H R w) (i : Nat) (hi : i < n) : Calls Try.prog 24 #[.pointer (some ⟨pb, 0, none⟩), .int .i64 i] w fun e w' => e = .returned (.int .u64 (H i).ts) ∧ w' = w := by
  obtain ⟨a, c, hc, hr⟩ := h.hor
  obtain ⟨g, rfl, c0, c1, c2, c3⟩ := hr i hi
  clear h hr
  have i0 : (0 : Int) ≤ (i : Int) := by omega
  have i1 : (i : Int) < (n : Int) := by omega
  go_enter Try.func24, Try.ntmps24
  go_wp2
  go_ret
  exact ⟨rfl, rfl⟩
set_option maxRecDepth 100000 in
theorem get26 (h : View pb hist mk mat n m H R w) (i : Nat) (hi : i < m) : Calls Try.prog 26 #[.pointer (some ⟨pb, 0, none⟩), .int .i64 i] w fun e w' => e = .returned (.int .u64 (R i).ts) ∧ w' = w := by
  obtain ⟨a, c, hc, hr⟩ := h.red
  obtain ⟨g, rfl, c0, c1, c2, c3⟩ := hr i hi
  clear h hr
  have i0 : (0 : Int) ≤ (i : Int) := by omega
  have i1 : (i : Int) < (m : Int) := by omega
  go_enter Try.func26, Try.ntmps26
  go_wp2
  go_ret
  exact ⟨rfl, rfl⟩
set_option maxRecDepth 100000 in
theorem get25 (h : View pb hist mk mat n m H R w) (i : Nat) (hi : i < n) (hH : InR H n) : Calls Try.prog 25 #[.pointer (some ⟨pb, 0, none⟩), .int .i64 i] w fun e w' => e = .returned (.int .i64 (H i).at_) ∧ Below w.heap.size w w' := by
  have HS := hide (sub32 (H i).at_ w (hH i hi).1 (hH i hi).2)
  obtain ⟨a, c, hc, hr⟩ := h.hor
  obtain ⟨g, rfl, c0, c1, c2, c3⟩ := hr i hi
  clear h hr hH
  have i0 : (0 : Int) ≤ (i : Int) := by omega
  have i1 : (i : Int) < (n : Int) := by omega
  go_enter Try.func25, Try.ntmps25
  go_wp2_with fail
  refine HS.out.mono ?_
  rintro e w' ⟨rfl, hb⟩
  go_wp2_with fail
  go_ret
  exact ⟨rfl, hb⟩
set_option maxRecDepth 100000 in
theorem get27 (h : View pb hist mk mat n m H R w) (i : Nat) (hi : i < m) (hR : InR R m) : Calls Try.prog 27 #[.pointer (some ⟨pb, 0, none⟩), .int .i64 i] w fun e w' => e = .returned (.int .i64 (R i).at_) ∧ Below w.heap.size w w' := by
  have HS := hide (sub32 (R i).at_ w (hR i hi).1 (hR i hi).2)
  obtain ⟨a, c, hc, hr⟩ := h.red
  obtain ⟨g, rfl, c0, c1, c2, c3⟩ := hr i hi
  clear h hr hR
  have i0 : (0 : Int) ≤ (i : Int) := by omega
  have i1 : (i : Int) < (m : Int) := by omega
  go_enter Try.func27, Try.ntmps27
  go_wp2_with fail
  refine HS.out.mono ?_
  rintro e w' ⟨rfl, hb⟩
  go_wp2_with fail
  go_ret
  exact ⟨rfl, hb⟩
end
end Go.Proofs.Qxb6605955a

import Derived.Test.Qxb6605831aReads
import Derived.WalkKit
import Derived.Test.Qxb6605831aMem
namespace Go.Proofs.Qxb6605831a
open Go.RowKit

theorem Try.info5 : (Try.prog.info? 5).map (fun i => (i.zero, i.size, i.bytes)) = some (some (.int .u8 0), 1, 1) := by kernel_rfl
theorem make35 (n : Nat) (hn : n ≤ 1048576) (w : World) : (Instr.makeSlice 35 (.int .i64 (n : Int)) (.int .i64 (n : Int))).run Try.prog w = .ok (.slice (some ⟨w.heap.size, 0, none⟩) n n) (w.alloc (.cells (madeCells #[.int .u8 0] n) 5)) := by
  obtain ⟨i, hi, hz, h1, h2⟩ := info_parts Try.info5
  have := run_make (P := Try.prog) w 35 5 i _ Try.underlying35 hi hz .i64 .i64 n n (by omega) (by omega) (by rw [h2]; omega) (by omega)
  rw [h1] at this
  simpa [Value.cells] using this

set_option maxRecDepth 100000 in
set_option maxHeartbeats 400000 in
theorem clone27_some (a : Addr) (b off n c : Nat) (ha : 0 < n → a = ⟨b, off, none⟩) (Z : Nat → Int) (w : World) (hn : n ≤ 1048576) (h : ∀ j, j < n → w.cell? ⟨b, off + j, none⟩ = some (.int .u8 (Z j))) :
    Calls Try.prog 27 #[.slice (some a) n c] w fun e w' => e = .returned (.slice (some ⟨w.heap.size, 0, none⟩) n n) ∧ ∃ cs : Array Value, cs.size = n ∧ (∀ j, j < n → cs[j]? = some (.int .u8 (Z j))) ∧ w' = w.alloc (.cells cs 5) := by
  have H : Hid (∀ j, j < n → w.cell? ⟨b, off + j, none⟩ = some (.int .u8 (Z j))) := h; clear h
  have HA : Hid (0 < n → a = ⟨b, off, none⟩) := ha; clear ha
  have hm := make35 n hn
  have q35 : ∀ (w : World) (a : Addr) (n c : Nat), (binOp .eql 35 (.slice (some a) n c) (.slice none 0 0)).run Try.prog w = .ok (.bool false) w := fun w a n c => Lib.run_eql_slice_nil w _ _ (some a) n c 0 0 Try.underlying35
  go_enter Try.func27, Try.ntmps27
  go_wp2
  clear hm q35
  go_loopw [4] (fun i wr => ∃ (k : Nat) (cs : Array Value), k ≤ n ∧ i = .int .i64 k ∧ cs.size = n ∧ (∀ j, j < k → cs[j]? = some (.int .u8 (Z j))) ∧ wr = w.alloc (.cells cs 5)) (fun i _ => n - (intOf i).toNat)
  case atStart => exact ⟨0, _, Nat.zero_le _, rfl, by simp [madeCells], by simp, rfl⟩
  case round =>
    obtain ⟨k, cs, hk, rfl, hs, hj, hwr⟩ := hrel
    have HJ : Hid (∀ j, j < k → cs[j]? = some (.int .u8 (Z j))) := hj; clear hj
    by_cases hlt : k < n
    · obtain rfl := HA.out (by omega)
      have hc0 := H.out k hlt
      have hb := World.block_lt_of_cell? _ _ hc0
      have hc : wr.cell? ⟨b, off + k, none⟩ = some (.int .u8 (Z k)) := by rw [hwr, ← hc0]; exact World.cell?_alloc_past _ _ _ hb
      have hd : wr.cell? ⟨w.heap.size, k, none⟩ = some (cs[k]'(by omega)) := by rw [hwr, cell_of (new_at w _)]; simp [hs, hlt]
      have hf : wr.frozen? ⟨w.heap.size, k, none⟩ = false := by rw [hwr]; exact free_of (new_at w _) _
      have HW : Hid (wr = w.alloc (.cells cs 5)) := hwr; clear hwr hc0
      go_wp2
      go_roundw
      case rel =>
        refine ⟨k + 1, cs.setIfInBounds k (.int .u8 (Z k)), by omega, by go_num, by simpa using hs, ?_, by rw [HW.out, set_alloc]⟩
        intro j hj
        rw [Array.getElem?_setIfInBounds]
        by_cases e : k = j
        · subst e; simp [hs, hlt]
        · rw [if_neg e]; exact HJ.out j (by omega)
      case measure => simp [intOf]; omega
    · obtain rfl : k = n := by omega
      have HW : Hid (wr = w.alloc (.cells cs 5)) := hwr; clear hwr
      go_wp2
      go_ret
      exact ⟨rfl, cs, hs, HJ.out, HW.out⟩

/-- The nil slice. -/
theorem clone27_none (c : Nat) (w : World) : Calls Try.prog 27 #[.slice none 0 c] w fun e w' => e = .returned (.slice none 0 0) ∧ w' = w := by
  have q35 : ∀ (w : World) (n c : Nat), (binOp .eql 35 (.slice none n c) (.slice none 0 0)).run Try.prog w = .ok (.bool true) w := fun w n c => Lib.run_eql_slice_nil w _ _ none n c 0 0 Try.underlying35
  go_enter Try.func27, Try.ntmps27
  go_wp2
  go_ret
  exact ⟨rfl, rfl⟩

/-- A slice of bytes: what it holds. -/
def Bytes (w : World) (p : Option Addr) (n : Nat) (Z : Nat → Int) : Prop := (p = none → n = 0) ∧ ∀ j, j < n → ∃ b off, p = some ⟨b, off, none⟩ ∧ w.cell? ⟨b, off + j, none⟩ = some (.int .u8 (Z j))

theorem Bytes.same {w w' : World} {p : Option Addr} {n : Nat} {Z : Nat → Int} (h : Bytes w p n Z) (hp : ∀ a, p = some a → w'.heap[a.block]? = w.heap[a.block]?) : Bytes w' p n Z :=
  ⟨h.1, fun j hj => by
    obtain ⟨b, off, rfl, hc⟩ := h.2 j hj
    exact ⟨b, off, rfl, (World.cell?_of_block (a := ⟨b, off + j, none⟩) (hp ⟨b, off, none⟩ rfl)).trans hc⟩⟩
theorem Bytes.later {w w' : World} {p : Option Addr} {n : Nat} {Z : Nat → Int} (h : Bytes w p n Z) (hb : Below w.heap.size w w') : Bytes w' p n Z :=
  ⟨h.1, fun j hj => by
    obtain ⟨b, off, rfl, hc⟩ := h.2 j hj
    exact ⟨b, off, rfl, cell_kept hb (World.block_lt_of_cell? _ _ hc) hc⟩⟩

/-- zzCloneBytes: the same bytes, in a block of its own (nil: nil). -/
theorem clone27 (p : Option Addr) (n c : Nat) (Z : Nat → Int) (w : World) (hn : n ≤ 1048576) (h : Bytes w p n Z) :
    Calls Try.prog 27 #[.slice p n c] w fun e w' => ∃ q m, e = .returned (.slice q n m) ∧ Bytes w' q n Z ∧ Below w.heap.size w w' ∧ (∀ a, q = some a → w.heap.size ≤ a.block ∧ a.block < w'.heap.size) ∧ w'.drawn = w.drawn := by
  obtain ⟨h0, h⟩ := h
  cases p with
  | none =>
    obtain rfl := h0 rfl
    refine (clone27_none c w).mono ?_
    rintro e w' ⟨rfl, rfl⟩
    exact ⟨none, 0, rfl, ⟨fun _ => rfl, fun j hj => absurd hj (Nat.not_lt_zero _)⟩, Below.refl _ _, (fun a ha => nomatch ha), rfl⟩
  | some a =>
    refine (clone27_some a a.block a.off n c (fun hp => ?_) Z w hn (fun j hj => ?_)).mono ?_
    · obtain ⟨b, off, e, _⟩ := h 0 hp
      simp only [Option.some.injEq] at e; subst e; rfl
    · obtain ⟨b, off, e, hc⟩ := h j hj
      simp only [Option.some.injEq] at e; subst e; exact hc
    · rintro e w' ⟨rfl, cs, hs, hz, rfl⟩
      refine ⟨_, _, rfl, ⟨(fun h => nomatch h), fun j hj => ⟨w.heap.size, 0, rfl, ?_⟩⟩, (Below.refl _ _).alloc (Nat.le_refl _) _, fun a ha => ?_, rfl⟩
      · rw [Nat.zero_add, cell_of (new_at w _)]; exact hz j hj
      · simp only [Option.some.injEq] at ha; subst ha; simp
end Go.Proofs.Qxb6605831a

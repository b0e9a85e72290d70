import Derived.Test.Qxb6605955aMem
import Derived.Test.Qxb6605955aProg
namespace Go.Proofs.Qxb6605955a
open Go.RowKit

def IsBool (e : Ending) : Prop := ∃ x, e = .returned (.bool x)
theorem IsBool.mk {x : Bool} : IsBool (.returned (.bool x)) := ⟨x, rfl⟩

structure Rd where
  at_ : Int
  ts : Int

/-- The readings that a slice of PartReading holds. -/
def Rds (w : World) (a : Option Addr) (n : Nat) (R : Nat → Rd) : Prop :=
  ∀ i, i < n → ∃ b off, a = some ⟨b, off, none⟩ ∧ w.cell? ⟨b, off + i * 2, none⟩ = some (.int .i64 (R i).at_) ∧ w.cell? ⟨b, off + i * 2 + 1, none⟩ = some (.int .u64 (R i).ts)
theorem Rds.later {w w' : World} {a : Option Addr} {n : Nat} {R : Nat → Rd} (h : Rds w a n R) (hb : Below w.heap.size w w') : Rds w' a n R := fun i hi => by
  obtain ⟨b, off, e, h1, h2⟩ := h i hi
  exact ⟨b, off, e, cell_kept hb (World.block_lt_of_cell? _ _ h1) h1, cell_kept hb (World.block_lt_of_cell? _ _ h2) h2⟩

set_option maxHeartbeats 800000 in
theorem bytes14 (h0 : ByteArray) (a1 : Option Addr) (n1 c1 : Nat) (a2 : Option Addr) (n2 c2 : Nat) (mk : ByteArray) (x : Value) (h : ByteArray) (w : World) :
    Calls Try.prog 14 #[.string h0, .slice a1 n1 c1, .slice a2 n2 c2, .string mk, x, .string h] w fun e w' => IsBool e ∧ w' = w := by
  go_enter Try.func14, Try.ntmps14
  go_wp2
  all_goals go_ret
  all_goals exact ⟨.mk, rfl⟩

theorem Try.info45 : (Try.prog.info? 45).map (fun i => (i.zero, i.size, i.bytes)) = some (some (.int .u64 0), 1, 8) := by kernel_rfl
theorem Try.info2 : (Try.prog.info? 2).map (fun i => (i.zero, i.size, i.bytes)) = some (some (.int .i64 0), 1, 8) := by kernel_rfl
theorem make38 (n : Nat) (hn : n ≤ 1048576) (w : World) : (Instr.makeSlice 38 (.int .i64 (n : Int)) (.int .i64 (n : Int))).run Try.prog w = .ok (.slice (some ⟨w.heap.size, 0, none⟩) n n) (w.alloc (.cells (madeCells #[.int .u64 0] n) 45)) := by
  obtain ⟨i, hi, hz, h1, h2⟩ := info_parts Try.info45
  have := run_make (P := Try.prog) w 38 45 i _ Try.underlying38 hi hz .i64 .i64 n n (by omega) (by omega) (by rw [h2]; omega) (by omega)
  rw [h1] at this
  simpa [Value.cells] using this
theorem make32 (n : Nat) (hn : n ≤ 1048576) (w : World) : (Instr.makeSlice 32 (.int .i64 (n : Int)) (.int .i64 (n : Int))).run Try.prog w = .ok (.slice (some ⟨w.heap.size, 0, none⟩) n n) (w.alloc (.cells (madeCells #[.int .i64 0] n) 2)) := by
  obtain ⟨i, hi, hz, h1, h2⟩ := info_parts Try.info2
  have := run_make (P := Try.prog) w 32 2 i _ Try.underlying32 hi hz .i64 .i64 n n (by omega) (by omega) (by rw [h2]; omega) (by omega)
  rw [h1] at this
  simpa [Value.cells] using this

set_option maxRecDepth 100000 in
set_option maxHeartbeats 400000 in
/-- zzSplitTs. -/
theorem splitTs16 (a : Option Addr) (n c : Nat) (R : Nat → Rd) (w : World) (hn : n ≤ 65536) (h : Rds w a n R) :
    Calls Try.prog 16 #[.slice a n c] w fun e w' => e = .returned (.slice (some ⟨w.heap.size, 0, none⟩) n n) ∧ ∃ cs : Array Value, cs.size = n ∧ (∀ j, j < n → cs[j]? = some (.int .u64 (R j).ts)) ∧ w' = w.alloc (.cells cs 45) := by
  have H := hide h; clear h
  have hm := make38 n (by omega)
  have hn' : (n : Int) ≤ 65536 := by omega
  clear hn
  go_enter Try.func16, Try.ntmps16
  go_wp2
  clear hm
  go_loopw [4] (fun i wr => ∃ (k : Nat) (cs : Array Value), k ≤ n ∧ i = .int .i64 k ∧ cs.size = n ∧ (∀ j, j < k → cs[j]? = some (.int .u64 (R j).ts)) ∧ wr = w.alloc (.cells cs 45)) (fun i _ => n - (intOf i).toNat)
  case atStart => exact ⟨0, _, Nat.zero_le _, rfl, by simp [madeCells], by simp, rfl⟩
  case round =>
    obtain ⟨k, cs, hk, rfl, hs, hj, hwr⟩ := hrel
    have HJ := hide hj; clear hj
    by_cases hlt : k < n
    · obtain ⟨b, off, rfl, _, d1⟩ := H.out k hlt
      have hb : b < w.heap.size := World.block_lt_of_cell? _ _ d1
      have hc : wr.cell? ⟨b, off + k * 2 + 1, none⟩ = some (.int .u64 (R k).ts) := by rw [hwr]; exact (World.cell?_of_block (a := ⟨b, off + k * 2 + 1, none⟩) (old_at _ hb)).trans d1
      have hd : wr.cell? ⟨w.heap.size, k, none⟩ = some (cs[k]'(by omega)) := by rw [hwr, cell_of (new_at w _)]; simp [hs, hlt]
      have hf : wr.frozen? ⟨w.heap.size, k, none⟩ = false := by rw [hwr]; exact free_of (new_at w _) _
      have HW := hide hwr; clear hwr d1
      go_wp2
      go_roundw
      case rel =>
        refine ⟨k + 1, cs.setIfInBounds k (.int .u64 (R k).ts), by omega, by go_num, by simpa using hs, ?_, by rw [HW.out, set_alloc]⟩
        intro j hj
        rw [Array.getElem?_setIfInBounds]
        by_cases e : k = j
        · subst e; simp [hs, hlt]
        · rw [if_neg e]; exact HJ.out j (by omega)
      case measure => simp [intOf]; omega
    · obtain rfl : k = n := by omega
      have HW := hide hwr; clear hwr
      go_wp2
      go_ret
      exact ⟨rfl, cs, hs, HJ.out, HW.out⟩

set_option maxRecDepth 100000 in
set_option maxHeartbeats 400000 in
/-- zzSplitAt. -/
theorem splitAt17 (a : Option Addr) (n c : Nat) (R : Nat → Rd) (w : World) (hn : n ≤ 65536) (h : Rds w a n R) :
    Calls Try.prog 17 #[.slice a n c] w fun e w' => e = .returned (.slice (some ⟨w.heap.size, 0, none⟩) n n) ∧ ∃ cs : Array Value, cs.size = n ∧ (∀ j, j < n → cs[j]? = some (.int .i64 (R j).at_)) ∧ w' = w.alloc (.cells cs 2) := by
  have H := hide h; clear h
  have hm := make32 n (by omega)
  have hn' : (n : Int) ≤ 65536 := by omega
  clear hn
  go_enter Try.func17, Try.ntmps17
  go_wp2
  clear hm
  go_loopw [4] (fun i wr => ∃ (k : Nat) (cs : Array Value), k ≤ n ∧ i = .int .i64 k ∧ cs.size = n ∧ (∀ j, j < k → cs[j]? = some (.int .i64 (R j).at_)) ∧ wr = w.alloc (.cells cs 2)) (fun i _ => n - (intOf i).toNat)
  case atStart => exact ⟨0, _, Nat.zero_le _, rfl, by simp [madeCells], by simp, rfl⟩
  case round =>
    obtain ⟨k, cs, hk, rfl, hs, hj, hwr⟩ := hrel
    have HJ := hide hj; clear hj
    by_cases hlt : k < n
    · obtain ⟨b, off, rfl, d1, _⟩ := H.out k hlt
      have hb : b < w.heap.size := World.block_lt_of_cell? _ _ d1
      have hc : wr.cell? ⟨b, off + k * 2, none⟩ = some (.int .i64 (R k).at_) := by rw [hwr]; exact (World.cell?_of_block (a := ⟨b, off + k * 2, none⟩) (old_at _ hb)).trans d1
      have hd : wr.cell? ⟨w.heap.size, k, none⟩ = some (cs[k]'(by omega)) := by rw [hwr, cell_of (new_at w _)]; simp [hs, hlt]
      have hf : wr.frozen? ⟨w.heap.size, k, none⟩ = false := by rw [hwr]; exact free_of (new_at w _) _
      have HW := hide hwr; clear hwr d1
      go_wp2
      go_roundw
      case rel =>
        refine ⟨k + 1, cs.setIfInBounds k (.int .i64 (R k).at_), by omega, by go_num, by simpa using hs, ?_, by rw [HW.out, set_alloc]⟩
        intro j hj
        rw [Array.getElem?_setIfInBounds]
        by_cases e : k = j
        · subst e; simp [hs, hlt]
        · rw [if_neg e]; exact HJ.out j (by omega)
      case measure => simp [intOf]; omega
    · obtain rfl : k = n := by omega
      have HW := hide hwr; clear hwr
      go_wp2
      go_ret
      exact ⟨rfl, cs, hs, HJ.out, HW.out⟩
end Go.Proofs.Qxb6605955a

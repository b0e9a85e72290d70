import Derived.Test.Qxb6605955aReads
namespace Go.Proofs.Qxb6605955a
open Go.RowKit

/-- The strings that a slice holds. -/
def Strs (w : World) (a : Option Addr) (n : Nat) (S : Nat → ByteArray) : Prop :=
  ∀ i, i < n → ∃ b off, a = some ⟨b, off, none⟩ ∧ w.cell? ⟨b, off + i, none⟩ = some (.string (S i))
theorem Strs.later {w w' : World} {a : Option Addr} {n : Nat} {S : Nat → ByteArray} (h : Strs w a n S) (hb : Below w.heap.size w w') : Strs w' a n S := fun i hi => by
  obtain ⟨b, off, e, h1⟩ := h i hi
  exact ⟨b, off, e, cell_kept hb (World.block_lt_of_cell? _ _ h1) h1⟩

set_option maxRecDepth 100000 in
set_option maxHeartbeats 1600000 in
/-- zzBytes of the second law. -/
theorem bytes28 (h0 : ByteArray) (a1 : Option Addr) (n1 c1 : Nat) (a2 : Option Addr) (n2 c2 : Nat) (mk : ByteArray) (x : Value) (a5 : Option Addr) (n c5 : Nat) (S : Nat → ByteArray) (w : World) (h : Strs w a5 n S) :
    Calls Try.prog 28 #[.string h0, .slice a1 n1 c1, .slice a2 n2 c2, .string mk, x, .slice a5 n c5] w fun e w' => IsBool e ∧ w' = w := by
  have HS := hide h
  clear h
  go_enter Try.func28, Try.ntmps28
  go_wp2
  all_goals first | (go_ret; exact ⟨.mk, rfl⟩) | skip
  go_loopw [13, 14] (fun t i wr => ∃ (k : Nat) (z : Int), k ≤ n ∧ t = .int .i64 z ∧ i = .int .i64 k ∧ wr = w) (fun _ i _ => n - (intOf i).toNat)
  case atStart => exact ⟨0, _, Nat.zero_le _, rfl, rfl, rfl⟩
  case round =>
    obtain ⟨k, z, hk, rfl, rfl, rfl⟩ := hrel
    by_cases hlt : k < n
    · obtain ⟨b, off, rfl, d1⟩ := HS.out k hlt
      have i0 : (0 : Int) ≤ (k : Int) := by omega
      have i1 : (k : Int) < (n : Int) := by omega
      go_wp2
      all_goals first | (go_ret; exact ⟨.mk, rfl⟩) | skip
      go_roundw
      case rel => exact ⟨k + 1, _, by omega, rfl, by go_num, by trivial⟩
      case measure => simp [intOf]; omega
    · obtain rfl : n = k := by omega
      go_wp2
      go_ret
      exact ⟨.mk, rfl⟩
end Go.Proofs.Qxb6605955a

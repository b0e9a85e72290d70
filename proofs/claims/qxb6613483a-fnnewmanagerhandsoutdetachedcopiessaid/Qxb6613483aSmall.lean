import Derived.Test.Qxb6613483aMem
import Derived.Test.Qxb6613483aLocks
namespace Go.Proofs.Qxb6613483a
open Go.RowKit

def IsBool (e : Ending) : Prop := ∃ x, e = .returned (.bool x)
theorem IsBool.mk {x : Bool} : IsBool (.returned (.bool x)) := ⟨x, rfl⟩
def IsInt (e : Ending) : Prop := ∃ x, e = .returned (.int .i64 x)
theorem IsInt.mk {x : Int} : IsInt (.returned (.int .i64 x)) := ⟨x, rfl⟩

/-- The strings that a slice holds. -/
def Strs (w : World) (a : Option Addr) (n : Nat) (S : Nat → ByteArray) : Prop :=
  ∀ i, i < n → ∃ b off, a = some ⟨b, off, none⟩ ∧ w.cell? ⟨b, off + i, none⟩ = some (.string (S i))
theorem Strs.later {w w' : World} {a : Option Addr} {n : Nat} {S : Nat → ByteArray} (h : Strs w a n S) (hb : Below w.heap.size w w') : Strs w' a n S := fun i hi => by
  obtain ⟨b, off, e, h1⟩ := h i hi
  exact ⟨b, off, e, cell_kept hb (World.block_lt_of_cell? _ _ h1) h1⟩
theorem Strs.less {w : World} {a : Option Addr} {n m : Nat} {S : Nat → ByteArray} (h : Strs w a n S) (hm : m ≤ n) : Strs w a m S := fun i hi => h i (by omega)
/-- The numbers that a slice holds. -/
def Ints (w : World) (a : Option Addr) (n : Nat) (Z : Nat → Int) : Prop :=
  ∀ i, i < n → ∃ b off, a = some ⟨b, off, none⟩ ∧ w.cell? ⟨b, off + i, none⟩ = some (.int .i64 (Z i))
theorem Ints.later {w w' : World} {a : Option Addr} {n : Nat} {Z : Nat → Int} (h : Ints w a n Z) (hb : Below w.heap.size w w') : Ints w' a n Z := fun i hi => by
  obtain ⟨b, off, e, h1⟩ := h i hi
  exact ⟨b, off, e, cell_kept hb (World.block_lt_of_cell? _ _ h1) h1⟩

/-- The last place below m at which S holds s. -/
def lastIdx (S : Nat → ByteArray) (s : List UInt8) : Nat → Option Nat
  | 0 => none
  | m + 1 => if (S m).data.toList = s then some m else lastIdx S s m
theorem lastIdx_lt (S : Nat → ByteArray) (s : List UInt8) : ∀ m i, lastIdx S s m = some i → i < m
  | 0, i, h => by cases h
  | m + 1, i, h => by
    unfold lastIdx at h
    split at h
    · cases h; omega
    · have := lastIdx_lt S s m i h; omega
theorem same_iff (a b : ByteArray) : (a.toList == b.toList) = decide (a.data.toList = b.data.toList) := by
  rw [ByteArray.toList_eq, ByteArray.toList_eq, Bool.eq_iff_iff, beq_iff_eq, decide_eq_true_iff]

set_option maxHeartbeats 400000 in
/-- zzAddLens: some number. -/
theorem add11 (z : Int) (a : Option Addr) (n c : Nat) (S : Nat → ByteArray) (w : World) (hn : n ≤ 4096) (h : Strs w a n S) :
    Calls Try.prog 11 #[.int .i64 z, .slice a n c] w fun e w' => IsInt e ∧ w' = w := by
  have HS := hide h
  clear h
  have hn' : (n : Int) ≤ 4096 := by omega
  go_enter Try.func11, Try.ntmps11
  go_wp2
  go_loopw [0, 5] (fun t i wr => ∃ (k : Nat) (z : Int), k ≤ n ∧ t = .int .i64 z ∧ i = .int .i64 k ∧ wr = w) (fun _ i _ => n - (intOf i).toNat)
  case atStart => exact ⟨0, _, Nat.zero_le _, rfl, rfl, rfl⟩
  case round =>
    obtain ⟨k, z, hk, rfl, rfl, rfl⟩ := hrel
    by_cases hlt : k < n
    · obtain ⟨b, off, rfl, d1⟩ := HS.out k hlt
      have i0 : (0 : Int) ≤ (k : Int) := by omega
      have i1 : (k : Int) < (n : Int) := by omega
      go_wp2
      all_goals first | (go_ret; exact ⟨.mk, rfl⟩) | skip
      go_roundw
      case rel => exact ⟨k + 1, _, by omega, rfl, by go_num, by trivial⟩
      case measure => simp [intOf]; omega
    · obtain rfl : n = k := by omega
      go_wp2
      go_ret
      exact ⟨.mk, rfl⟩

/-- zzMin3. -/
theorem min12 (x y z : Nat) (w : World) :
    Calls Try.prog 12 #[.int .i64 (x : Int), .int .i64 (y : Int), .int .i64 (z : Int)] w fun e w' => (∃ m : Nat, e = .returned (.int .i64 (m : Int)) ∧ m ≤ x ∧ m ≤ y ∧ m ≤ z) ∧ w' = w := by
  go_enter Try.func12, Try.ntmps12
  go_wp2
  all_goals go_ret
  all_goals first | exact ⟨⟨x, rfl, by omega, by omega, by omega⟩, rfl⟩ | exact ⟨⟨y, rfl, by omega, by omega, by omega⟩, rfl⟩ | exact ⟨⟨z, rfl, by omega, by omega, by omega⟩, rfl⟩

/-- What zzLast answers. -/
def lastV : Option Nat → Value
  | none => .int .i64 (-1)
  | some i => .int .i64 (i : Int)

set_option maxHeartbeats 400000 in
theorem last28 (a : Option Addr) (n c : Nat) (S : Nat → ByteArray) (k : ByteArray) (w : World) (hn : n ≤ 4096) (h : Strs w a n S) :
    Calls Try.prog 28 #[.slice a n c, .string k] w fun e w' => e = .returned (lastV (lastIdx S k.data.toList n)) ∧ w' = w := by
  have HS := hide h
  clear h
  have hn' : (n : Int) ≤ 4096 := by omega
  go_enter Try.func28, Try.ntmps28
  go_wp2
  go_loopw [5] (fun i wr => ∃ (j : Nat), j ≤ n ∧ i = .int .i64 ((j : Int) - 1) ∧ lastIdx S k.data.toList n = lastIdx S k.data.toList j ∧ wr = w) (fun i _ => (intOf i + 1).toNat)
  case atStart => exact ⟨n, Nat.le_refl _, by first | rfl | go_num, rfl, rfl⟩
  case round =>
    obtain ⟨j, hj, rfl, he, rfl⟩ := hrel
    have HE := hide he; clear he
    cases j with
    | zero =>
      go_wp2
      go_ret
      exact ⟨by rw [HE.out]; rfl, rfl⟩
    | succ j =>
      obtain ⟨b, off, rfl, d1⟩ := HS.out j (by omega)
      have e1 : ((j + 1 : Nat) : Int) - 1 = (j : Int) := by omega
      rw [e1]
      have i0 : (0 : Int) ≤ (j : Int) := by omega
      have i1 : (j : Int) < (n : Int) := by omega
      cases hc : ((S j).toList == k.toList) with
      | true =>
        go_wp2
        go_ret
        refine ⟨?_, rfl⟩
        rw [same_iff] at hc
        rw [HE.out, lastIdx, if_pos (by simpa using hc)]
        rfl
      | false =>
        go_wp2
        go_roundw
        case rel =>
          rw [same_iff] at hc
          exact ⟨j, by omega, by go_num, by rw [HE.out, lastIdx, if_neg (by simpa using hc)], by trivial⟩
        case measure => simp [intOf]
end Go.Proofs.Qxb6613483a

import Derived.Test.Qxb6613483aSmall
namespace Go.Proofs.Qxb6613483a
open Go.RowKit

/-- No; or yes, and then every string of the second list is short. -/
def Says (n : Nat) (N : Nat → ByteArray) (e : Ending) : Prop := e = .returned (.bool false) ∨ (e = .returned (.bool true) ∧ ∀ i, i < n → (N i).size ≤ 1048576)
theorem Says.no {n : Nat} {N : Nat → ByteArray} : Says n N (.returned (.bool false)) := .inl rfl

set_option maxRecDepth 100000 in
set_option maxHeartbeats 3200000 in
/-- zzBytes of the law on copies. -/
theorem bytes25 (a : Option Addr) (n c : Nat) (a1 : Option Addr) (n1 c1 : Nat) (a2 : Option Addr) (n2 c2 : Nat) (q : ByteArray) (S N : Nat → ByteArray) (w : World) (h : Strs w a n S) (h2 : Strs w a2 n2 N) :
    Calls Try.prog 25 #[.slice a n c, .slice a1 n1 c1, .slice a2 n2 c2, .string q] w fun e w' => Says n2 N e ∧ w' = w := by
  have HS := hide h; have HN := hide h2
  clear h h2
  go_enter Try.func25, Try.ntmps25
  go_wp2
  all_goals first | (go_ret; exact ⟨.no, rfl⟩) | skip
  go_loopw [9, 10] (fun t i wr => ∃ (k : Nat) (z : Int), k ≤ n ∧ t = .int .i64 z ∧ i = .int .i64 k ∧ wr = w) (fun _ i _ => n - (intOf i).toNat)
  case atStart => exact ⟨0, _, Nat.zero_le _, rfl, rfl, rfl⟩
  case round =>
    obtain ⟨k, z, hk, rfl, rfl, hwr⟩ := hrel
    obtain rfl : w = wr := hwr.symm
    clear hwr
    by_cases hlt : k < n
    · obtain ⟨b, off, rfl, d1⟩ := HS.out k hlt
      have i0 : (0 : Int) ≤ (k : Int) := by omega
      have i1 : (k : Int) < (n : Int) := by omega
      go_wp2
      all_goals first | (go_ret; exact ⟨.no, rfl⟩) | skip
      go_roundw
      case rel => exact ⟨k + 1, _, by omega, rfl, by go_num, by trivial⟩
      case measure => simp [intOf]; omega
    · obtain rfl : n = k := by omega
      clear HS
      go_wp2
      all_goals first | (go_ret; exact ⟨.no, rfl⟩) | skip
      go_loopw [9, 11] (fun t i wr => ∃ (k : Nat) (z : Int), k ≤ n2 ∧ t = .int .i64 z ∧ i = .int .i64 k ∧ wr = w ∧ ∀ i, i < k → (N i).size ≤ 1048576) (fun _ i _ => n2 - (intOf i).toNat)
      case atStart => exact ⟨0, _, Nat.zero_le _, rfl, rfl, rfl, fun i hi => absurd hi (Nat.not_lt_zero _)⟩
      case round =>
        obtain ⟨k, z, hk, rfl, rfl, hwr, hN⟩ := hrel
        obtain rfl : w = wr := hwr.symm
        have HSZ := hide hN
        clear hwr hN
        by_cases hlt : k < n2
        · obtain ⟨b, off, rfl, d1⟩ := HN.out k hlt
          have i0 : (0 : Int) ≤ (k : Int) := by omega
          have i1 : (k : Int) < (n2 : Int) := by omega
          by_cases hsz : ((N k).size : Int) ≤ 1048576
          · go_wp2
            all_goals first | (go_ret; exact ⟨.no, rfl⟩) | skip
            go_roundw
            case rel =>
              refine ⟨k + 1, _, by omega, rfl, by go_num, by trivial, fun i hi => ?_⟩
              by_cases e : i = k
              · rw [e]; omega
              · exact HSZ.out i (by omega)
            case measure => simp [intOf]; omega
          · go_wp2
            all_goals first | (go_ret; exact ⟨.no, rfl⟩) | skip
        · obtain rfl : n2 = k := by omega
          go_wp2
          all_goals first | (go_ret; exact ⟨.no, rfl⟩) | skip
          go_ret
          exact ⟨.inr ⟨rfl, HSZ.out⟩, rfl⟩

set_option maxRecDepth 100000 in
set_option maxHeartbeats 3200000 in
/-- zzBytes of the law on a live storage. -/
theorem bytes31 (a : Option Addr) (n c : Nat) (a1 : Option Addr) (n1 c1 : Nat) (a2 : Option Addr) (n2 c2 : Nat) (q d : ByteArray) (S N : Nat → ByteArray) (w : World) (h : Strs w a n S) (h2 : Strs w a2 n2 N) :
    Calls Try.prog 31 #[.slice a n c, .slice a1 n1 c1, .slice a2 n2 c2, .string q, .string d] w fun e w' => Says n2 N e ∧ w' = w := by
  have HS := hide h; have HN := hide h2
  clear h h2
  go_enter Try.func31, Try.ntmps31
  go_wp2
  all_goals first | (go_ret; exact ⟨.no, rfl⟩) | skip
  go_loopw [11, 12] (fun t i wr => ∃ (k : Nat) (z : Int), k ≤ n ∧ t = .int .i64 z ∧ i = .int .i64 k ∧ wr = w) (fun _ i _ => n - (intOf i).toNat)
  case atStart => exact ⟨0, _, Nat.zero_le _, rfl, rfl, rfl⟩
  case round =>
    obtain ⟨k, z, hk, rfl, rfl, hwr⟩ := hrel
    obtain rfl : w = wr := hwr.symm
    clear hwr
    by_cases hlt : k < n
    · obtain ⟨b, off, rfl, d1⟩ := HS.out k hlt
      have i0 : (0 : Int) ≤ (k : Int) := by omega
      have i1 : (k : Int) < (n : Int) := by omega
      go_wp2
      all_goals first | (go_ret; exact ⟨.no, rfl⟩) | skip
      go_roundw
      case rel => exact ⟨k + 1, _, by omega, rfl, by go_num, by trivial⟩
      case measure => simp [intOf]; omega
    · obtain rfl : n = k := by omega
      clear HS
      go_wp2
      all_goals first | (go_ret; exact ⟨.no, rfl⟩) | skip
      go_loopw [11, 13] (fun t i wr => ∃ (k : Nat) (z : Int), k ≤ n2 ∧ t = .int .i64 z ∧ i = .int .i64 k ∧ wr = w ∧ ∀ i, i < k → (N i).size ≤ 1048576) (fun _ i _ => n2 - (intOf i).toNat)
      case atStart => exact ⟨0, _, Nat.zero_le _, rfl, rfl, rfl, fun i hi => absurd hi (Nat.not_lt_zero _)⟩
      case round =>
        obtain ⟨k, z, hk, rfl, rfl, hwr, hN⟩ := hrel
        obtain rfl : w = wr := hwr.symm
        have HSZ := hide hN
        clear hwr hN
        by_cases hlt : k < n2
        · obtain ⟨b, off, rfl, d1⟩ := HN.out k hlt
          have i0 : (0 : Int) ≤ (k : Int) := by omega
          have i1 : (k : Int) < (n2 : Int) := by omega
          by_cases hsz : ((N k).size : Int) ≤ 1048576
          · go_wp2
            all_goals first | (go_ret; exact ⟨.no, rfl⟩) | skip
            go_roundw
            case rel =>
              refine ⟨k + 1, _, by omega, rfl, by go_num, by trivial, fun i hi => ?_⟩
              by_cases e : i = k
              · rw [e]; omega
              · exact HSZ.out i (by omega)
            case measure => simp [intOf]; omega
          · go_wp2
            all_goals first | (go_ret; exact ⟨.no, rfl⟩) | skip
        · obtain rfl : n2 = k := by omega
          go_wp2
          all_goals first | (go_ret; exact ⟨.no, rfl⟩) | skip
          go_ret
          exact ⟨.inr ⟨rfl, HSZ.out⟩, rfl⟩

end Go.Proofs.Qxb6613483a

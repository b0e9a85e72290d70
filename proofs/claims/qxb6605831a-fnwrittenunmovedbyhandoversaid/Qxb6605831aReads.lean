import Derived.Test.Qxb6605831aProg
import Derived.WalkKit
namespace Go.Proofs.Qxb6605831a
open Go.RowKit

/-- The Value fields of the stamps can be read: 'L i' is the length of stamp i's value. -/
def Lens (w : World) (a : Option Addr) (n : Nat) (L : Nat → Nat) : Prop :=
  ∀ i, i < n → ∃ b off p c, a = some ⟨b, off, none⟩ ∧ w.cell? ⟨b, off + i * 5 + 4, none⟩ = some (.slice p (L i) c) ∧ L i ≤ maxLen

def IsBool (e : Ending) : Prop := ∃ x, e = .returned (.bool x)
theorem IsBool.mk {x : Bool} : IsBool (.returned (.bool x)) := ⟨x, rfl⟩

set_option maxHeartbeats 400000 in
theorem bytes7 (g : Value) (a : Option Addr) (n c : Nat) (hn : n ≤ maxLen) (L : Nat → Nat) (w : World) (h : Lens w a n L) :
    Calls Try.prog 7 #[g, .slice a n c] w fun e w' => IsBool e ∧ w' = w := by
  unfold maxLen at hn
  have H : Hid (Lens w a n L) := h; clear h
  by_cases hb : (1048576 : Int) < (n : Int)
  · go_enter Try.func7, Try.ntmps7
    go_wp2
    go_ret
    exact ⟨.mk, rfl⟩
  · go_enter Try.func7, Try.ntmps7
    go_wp2
    go_loop [5, 6] (fun z i => ∃ (k : Nat) (q : Int), k ≤ n ∧ i = .int .i64 k ∧ z = .int .i64 q) (fun _ i => n - (intOf i).toNat)
    case atStart => exact ⟨0, _, Nat.zero_le _, rfl, rfl⟩
    case round =>
      obtain ⟨k, q, hk, rfl, rfl⟩ := hrel
      by_cases hlt : k < n
      · obtain ⟨b, off, p, c', rfl, hc, hL⟩ := H.out k hlt
        unfold maxLen at hL
        go_wp2
        · go_ret
          exact ⟨.mk, rfl⟩
        · go_ret
          exact ⟨.mk, rfl⟩
        · go_round
          case rel => exact ⟨k + 1, _, by omega, by go_num, rfl⟩
          case measure => simp [intOf]; omega
      · go_wp2
        go_ret
        exact ⟨.mk, rfl⟩

set_option maxHeartbeats 400000 in
theorem bytes24 (g r : Value) (a : Option Addr) (n c : Nat) (hn : n ≤ maxLen) (L : Nat → Nat) (w : World) (h : Lens w a n L) :
    Calls Try.prog 24 #[g, r, .slice a n c] w fun e w' => IsBool e ∧ w' = w := by
  unfold maxLen at hn
  have H : Hid (Lens w a n L) := h; clear h
  by_cases hb : (1048576 : Int) < (n : Int)
  · go_enter Try.func24, Try.ntmps24
    go_wp2
    go_ret
    exact ⟨.mk, rfl⟩
  · go_enter Try.func24, Try.ntmps24
    go_wp2
    go_loop [7, 8] (fun z i => ∃ (k : Nat) (q : Int), k ≤ n ∧ i = .int .i64 k ∧ z = .int .i64 q) (fun _ i => n - (intOf i).toNat)
    case atStart => exact ⟨0, _, Nat.zero_le _, rfl, rfl⟩
    case round =>
      obtain ⟨k, q, hk, rfl, rfl⟩ := hrel
      by_cases hlt : k < n
      · obtain ⟨b, off, p, c', rfl, hc, hL⟩ := H.out k hlt
        unfold maxLen at hL
        go_wp2
        · go_ret
          exact ⟨.mk, rfl⟩
        · go_ret
          exact ⟨.mk, rfl⟩
        · go_round
          case rel => exact ⟨k + 1, _, by omega, by go_num, rfl⟩
          case measure => simp [intOf]; omega
      · go_wp2
        go_ret
        exact ⟨.mk, rfl⟩

set_option maxHeartbeats 400000 in
theorem bytes26 (g r : Value) (a : Option Addr) (n c : Nat) (hn : n ≤ maxLen) (L : Nat → Nat) (w : World) (h : Lens w a n L) :
    Calls Try.prog 26 #[g, r, .slice a n c] w fun e w' => IsBool e ∧ w' = w := by
  unfold maxLen at hn
  have H : Hid (Lens w a n L) := h; clear h
  by_cases hb : (1048576 : Int) < (n : Int)
  · go_enter Try.func26, Try.ntmps26
    go_wp2
    go_ret
    exact ⟨.mk, rfl⟩
  · go_enter Try.func26, Try.ntmps26
    go_wp2
    go_loop [7, 8] (fun z i => ∃ (k : Nat) (q : Int), k ≤ n ∧ i = .int .i64 k ∧ z = .int .i64 q) (fun _ i => n - (intOf i).toNat)
    case atStart => exact ⟨0, _, Nat.zero_le _, rfl, rfl⟩
    case round =>
      obtain ⟨k, q, hk, rfl, rfl⟩ := hrel
      by_cases hlt : k < n
      · obtain ⟨b, off, p, c', rfl, hc, hL⟩ := H.out k hlt
        unfold maxLen at hL
        go_wp2
        · go_ret
          exact ⟨.mk, rfl⟩
        · go_ret
          exact ⟨.mk, rfl⟩
        · go_round
          case rel => exact ⟨k + 1, _, by omega, by go_num, rfl⟩
          case measure => simp [intOf]; omega
      · go_wp2
        go_ret
        exact ⟨.mk, rfl⟩

set_option maxHeartbeats 800000 in
theorem bytes23 (a : Option Addr) (n c : Nat) (hn : n ≤ maxLen) (L : Nat → Nat) (a2 : Option Addr) (n2 c2 : Nat) (hn2 : n2 ≤ maxLen) (L2 : Nat → Nat) (w : World) (h : Lens w a n L) (h2 : Lens w a2 n2 L2) :
    Calls Try.prog 23 #[.slice a n c, .slice a2 n2 c2] w fun e w' => IsBool e ∧ w' = w := by
  unfold maxLen at hn hn2
  have H : Hid (Lens w a n L) := h; clear h
  have H2 : Hid (Lens w a2 n2 L2) := h2; clear h2
  by_cases hb : (1048576 : Int) < (n : Int)
  · go_enter Try.func23, Try.ntmps23
    go_wp2
    go_ret
    exact ⟨.mk, rfl⟩
  · go_enter Try.func23, Try.ntmps23
    go_wp2
    go_loop [5, 6] (fun z i => ∃ (k : Nat) (q : Int), k ≤ n ∧ i = .int .i64 k ∧ z = .int .i64 q) (fun _ i => n - (intOf i).toNat)
    case atStart => exact ⟨0, _, Nat.zero_le _, rfl, rfl⟩
    case round =>
      obtain ⟨k, q, hk, rfl, rfl⟩ := hrel
      by_cases hlt : k < n
      · obtain ⟨b, off, p, c', rfl, hc, hL⟩ := H.out k hlt
        unfold maxLen at hL
        go_wp2
        · go_ret
          exact ⟨.mk, rfl⟩
        · go_ret
          exact ⟨.mk, rfl⟩
        · go_round
          case rel => exact ⟨k + 1, _, by omega, by go_num, rfl⟩
          case measure => simp [intOf]; omega
      · by_cases hb2 : (1048576 : Int) < (n2 : Int)
        · go_wp2
          go_ret
          exact ⟨.mk, rfl⟩
        · go_wp2
          · go_ret
            exact ⟨.mk, rfl⟩
          · go_loop [5, 7] (fun z i => ∃ (k : Nat) (q : Int), k ≤ n2 ∧ i = .int .i64 k ∧ z = .int .i64 q) (fun _ i => n2 - (intOf i).toNat)
            case atStart => exact ⟨0, _, Nat.zero_le _, rfl, rfl⟩
            case round =>
              obtain ⟨k2, q2, hk2, rfl, rfl⟩ := hrel
              by_cases hlt2 : k2 < n2
              · obtain ⟨b2, off2, p2, c2', rfl, hc2, hL2⟩ := H2.out k2 hlt2
                unfold maxLen at hL2
                go_wp2
                · go_ret
                  exact ⟨.mk, rfl⟩
                · go_ret
                  exact ⟨.mk, rfl⟩
                · go_round
                  case rel => exact ⟨k2 + 1, _, by omega, by go_num, rfl⟩
                  case measure => simp [intOf]; omega
              · go_wp2
                go_ret
                exact ⟨.mk, rfl⟩

/-- The lengths of the first k values. -/
def sumTo (L : Nat → Nat) : Nat → Nat
  | 0 => 0
  | k + 1 => sumTo L k + L k

/-- zzStampsFit: it answers; where it says true there are at most 511 stamps and at most 65535 bytes of values. -/
def FitSays (n : Nat) (L : Nat → Nat) (e : Ending) : Prop := ∃ x, e = .returned (.bool x) ∧ (x = true → n ≤ 511 ∧ sumTo L n ≤ 65535)

set_option maxHeartbeats 400000 in
theorem fit8 (a : Option Addr) (n c : Nat) (hn : n ≤ maxLen) (L : Nat → Nat) (w : World) (h : Lens w a n L) :
    Calls Try.prog 8 #[.slice a n c] w fun e w' => FitSays n L e ∧ w' = w := by
  unfold maxLen at hn
  have H : Hid (Lens w a n L) := h; clear h
  by_cases hb : (511 : Int) < (n : Int)
  · go_enter Try.func8, Try.ntmps8
    go_wp2
    go_ret
    exact ⟨⟨false, rfl, by simp⟩, rfl⟩
  · go_enter Try.func8, Try.ntmps8
    go_wp2
    go_loop [3, 11] (fun z i => ∃ (k : Nat), k ≤ n ∧ i = .int .i64 k ∧ z = .int .i64 (sumTo L k : Nat) ∧ sumTo L k ≤ 65535) (fun _ i => n - (intOf i).toNat)
    case atStart => exact ⟨0, Nat.zero_le _, rfl, rfl, by simp [sumTo]⟩
    case round =>
      obtain ⟨k, hk, rfl, rfl, hs⟩ := hrel
      by_cases hlt : k < n
      · obtain ⟨b, off, p, c', rfl, hc, hL⟩ := H.out k hlt
        unfold maxLen at hL
        go_wp2
        · go_ret
          exact ⟨⟨false, rfl, by simp⟩, rfl⟩
        · go_ret
          exact ⟨⟨false, rfl, by simp⟩, rfl⟩
        · go_round
          case rel => exact ⟨k + 1, by omega, by go_num, by simp [sumTo], by simp only [sumTo]; omega⟩
          case measure => simp [intOf]; omega
      · obtain rfl : k = n := by omega
        go_wp2
        go_ret
        exact ⟨⟨true, rfl, fun _ => ⟨by omega, hs⟩⟩, rfl⟩
end Go.Proofs.Qxb6605831a

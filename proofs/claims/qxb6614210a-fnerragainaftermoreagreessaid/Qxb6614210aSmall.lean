import Derived.Test.Qxb6614210aRows
import Derived.WalkKit
import Derived.WalkSpells
import Derived.WalkLawsBesides
namespace Go.Proofs.Qxb6614210a
open Go.RowKit

set_option maxHeartbeats 400000 in
theorem min_any (a b : Int) (w : World) :
    Calls Try.prog 7 #[.int .i64 a, .int .i64 b] w fun e w' => e = .returned (.int .i64 (if a < b then a else b)) ∧ w' = w := by
  by_cases h : a < b
  · rw [if_pos h]
    go_enter Try.func7, Try.ntmps7
    go_wp2
    go_ret
    exact ⟨rfl, rfl⟩
  · rw [if_neg h]
    go_enter Try.func7, Try.ntmps7
    go_wp2
    go_ret
    exact ⟨rfl, rfl⟩

/-- Strings that a slice's cells hold. -/
def StrCells (w : World) (a : Option Addr) (len : Nat) (ss : List ByteArray) : Prop :=
  len = ss.length ∧ len ≤ maxLen ∧ (∀ s ∈ ss, s.size ≤ maxLen) ∧ (0 < len → ∃ b off, a = some ⟨b, off, none⟩ ∧ ∀ i, i < len → w.cell? ⟨b, off + i, none⟩ = some (.string (ss.getD i ByteArray.empty)))

def IsBool (e : Ending) : Prop := ∃ v, e = .returned (.bool v)
def IsInt (e : Ending) : Prop := ∃ v, e = .returned (.int .i64 v)
theorem isBool {v : Value} (b : Bool) (h : v = .bool b) : IsBool (.returned v) := ⟨b, by rw [h]⟩
theorem isInt {v : Value} (b : Int) (h : v = .int .i64 b) : IsInt (.returned v) := ⟨b, by rw [h]⟩

set_option maxHeartbeats 400000 in
theorem spend_any (x : Int) (a0 : Option Addr) (l0 c0 : Nat) (a1 : Option Addr) (l1 c1 : Nat) (ss : List ByteArray) (w : World)
    (hs : StrCells w a1 l1 ss) :
    Calls Try.prog 6 #[.int .i64 x, .slice a0 l0 c0, .slice a1 l1 c1] w fun e w' => IsInt e ∧ w' = w := by
  obtain ⟨hl, hm, hz, hc⟩ := hs
  unfold maxLen at hm
  clear hl hz
  go_enter Try.func6, Try.ntmps6
  go_wp2
  go_loop [0, 7] (fun b i => ∃ (k : Nat) (y : Int), k ≤ l1 ∧ i = .int .i64 k ∧ b = .int .i64 y) (fun _ i => l1 - (intOf i).toNat)
  case atStart => exact ⟨0, _, Nat.zero_le _, rfl, rfl⟩
  case round =>
    obtain ⟨k, y, hk, rfl, rfl⟩ := hrel
    by_cases hlt : k < l1
    · obtain ⟨b, off, rfl, hcell⟩ := hc (by omega)
      have hg := hcell k hlt
      by_cases hy : y < 0
      · go_wp2
        go_ret
        exact ⟨isInt _ rfl, rfl⟩
      · go_wp2
        go_round
        case rel => exact ⟨k + 1, _, by omega, by go_num, rfl⟩
        case measure => simp [intOf]; omega
    · go_wp2
      go_ret
      exact ⟨isInt _ rfl, rfl⟩

set_option maxHeartbeats 1000000 in
theorem bytes1_any (a0 : Option Addr) (l0 c0 : Nat) (a1 : Option Addr) (l1 c1 : Nat) (ss : List ByteArray) (w : World) (hl0 : l0 ≤ maxLen)
    (hs : StrCells w a1 l1 ss) :
    Calls Try.prog 5 #[.slice a0 l0 c0, .slice a1 l1 c1] w fun e w' => IsBool e ∧ w' = w := by
  obtain ⟨hl, hm, hz, hc⟩ := hs
  unfold maxLen at hm hl0
  clear hl hz
  go_enter Try.func5, Try.ntmps5
  go_wp2
  all_goals try (go_ret; exact ⟨isBool _ rfl, rfl⟩)
  go_loop [5, 6] (fun b i => ∃ (k : Nat) (y : Int), k ≤ l1 ∧ i = .int .i64 k ∧ b = .int .i64 y) (fun _ i => l1 - (intOf i).toNat)
  case atStart => exact ⟨0, _, Nat.zero_le _, rfl, rfl⟩
  case round =>
    obtain ⟨k, y, hk, rfl, rfl⟩ := hrel
    by_cases hlt : k < l1
    · obtain ⟨b, off, rfl, hcell⟩ := hc (by omega)
      have hg := hcell k hlt
      go_wp2
      all_goals try (go_ret; exact ⟨isBool _ rfl, rfl⟩)
      go_round
      case rel => exact ⟨k + 1, _, by omega, by go_num, rfl⟩
      case measure => simp [intOf]; omega
    · go_wp2
      go_ret
      exact ⟨isBool _ rfl, rfl⟩

set_option maxHeartbeats 1000000 in
theorem bytes2_any (a0 : Option Addr) (l0 c0 : Nat) (a1 : Option Addr) (l1 c1 : Nat) (ss : List ByteArray) (a2 : Option Addr) (l2 c2 : Nat) (a3 : Option Addr) (l3 c3 : Nat) (ss3 : List ByteArray) (w : World) (hl0 : l0 ≤ maxLen)
    (hs : StrCells w a1 l1 ss) (hs3 : StrCells w a3 l3 ss3) :
    Calls Try.prog 14 #[.slice a0 l0 c0, .slice a1 l1 c1, .slice a2 l2 c2, .slice a3 l3 c3] w fun e w' => IsBool e ∧ w' = w := by
  obtain ⟨hl, hm, hz, hc⟩ := hs
  obtain ⟨hl3, hm3, hz3, hc3⟩ := hs3
  unfold maxLen at hm hl0 hm3
  clear hl hz hl3 hz3
  go_enter Try.func14, Try.ntmps14
  go_wp2
  all_goals try (go_ret; exact ⟨isBool _ rfl, rfl⟩)
  go_loop [9, 10] (fun b i => ∃ (k : Nat) (y : Int), k ≤ l1 ∧ i = .int .i64 k ∧ b = .int .i64 y) (fun _ i => l1 - (intOf i).toNat)
  case atStart => exact ⟨0, _, Nat.zero_le _, rfl, rfl⟩
  case round =>
    obtain ⟨k, y, hk, rfl, rfl⟩ := hrel
    by_cases hlt : k < l1
    · obtain ⟨b, off, rfl, hcell⟩ := hc (by omega)
      have hg := hcell k hlt
      go_wp2
      all_goals try (go_ret; exact ⟨isBool _ rfl, rfl⟩)
      go_round
      case rel => exact ⟨k + 1, _, by omega, by go_num, rfl⟩
      case measure => simp [intOf]; omega
    · go_wp2
      all_goals try (go_ret; exact ⟨isBool _ rfl, rfl⟩)
      go_loop [9, 11] (fun b i => ∃ (k : Nat) (y : Int), k ≤ l3 ∧ i = .int .i64 k ∧ b = .int .i64 y) (fun _ i => l3 - (intOf i).toNat)
      case atStart => exact ⟨0, _, Nat.zero_le _, rfl, rfl⟩
      case round =>
        obtain ⟨k2, y2, hk2, rfl, rfl⟩ := hrel
        by_cases hlt2 : k2 < l3
        · obtain ⟨b, off, rfl, hcell⟩ := hc3 (by omega)
          have hg := hcell k2 hlt2
          go_wp2
          all_goals try (go_ret; exact ⟨isBool _ rfl, rfl⟩)
          go_round
          case rel => exact ⟨k2 + 1, _, by omega, by go_num, rfl⟩
          case measure => simp [intOf]; omega
        · go_wp2
          go_ret
          exact ⟨isBool _ rfl, rfl⟩

end Go.Proofs.Qxb6614210a

import Derived.Test.Qxb6613651aDoorRows
import Derived.WalkKit
import Derived.WalkSpells
import Derived.WalkLawsBesides
namespace Go.Proofs.Qxb6613651aDoor
open Go.RowKit

/-- A slice value's cells hold the strings F 0, F 1, .. -/
def IsStrs (w : World) (a : Option Addr) (n : Nat) (F : Nat → ByteArray) : Prop :=
  ∀ i, i < n → ∃ b off, a = some ⟨b, off, none⟩ ∧ w.cell? ⟨b, off + i, none⟩ = some (.string (F i))
/-- The call ends in some bool. -/
def SomeBool (e : Ending) : Prop := ∃ b : Bool, e = .returned (.bool b)
theorem someBool_mk (b : Bool) : SomeBool (.returned (.bool b)) := ⟨b, rfl⟩

set_option maxHeartbeats 400000 in
theorem bytes7 (a : Option Addr) (len cap : Nat) (k0 : Int) (F : Nat → ByteArray) (w : World) (hm : len ≤ maxLen) (hS : IsStrs w a len F) (hF : ∀ i, i < len → (F i).size ≤ maxLen) :
    Calls Tryd.prog 7 #[.slice a len cap, .int .i64 k0] w fun e w' => SomeBool e ∧ w' = w := by
  unfold maxLen at hm
  by_cases h0 : len ≤ 1048576
  · go_enter Tryd.func7, Tryd.ntmps7
    go_wp2
    go_loop [5, 6] (fun t i => ∃ k z : Nat, k ≤ len ∧ i = .int .i64 k ∧ z ≤ 1048576 ∧ t = .int .i64 z) (fun _ i => len - (intOf i).toNat)
    case atStart => exact ⟨0, len, Nat.zero_le _, rfl, h0, rfl⟩
    case round =>
      obtain ⟨k, z, hk, rfl, hz, rfl⟩ := hrel
      by_cases hlt : k < len
      · obtain ⟨b, off, rfl, hcell⟩ := hS k hlt
        have hFk := hF k hlt
        unfold maxLen at hFk
        go_wp2
        · go_ret
          exact ⟨someBool_mk _, rfl⟩
        · go_ret
          exact ⟨someBool_mk _, rfl⟩
        · go_round
          case rel => exact ⟨k + 1, z + (F k).size, by omega, by go_num, by omega, by go_num⟩
          case measure => simp [intOf]; omega
      · go_wp2
        go_ret
        exact ⟨someBool_mk _, rfl⟩
  · go_enter Tryd.func7, Tryd.ntmps7
    go_wp2
    go_ret
    exact ⟨someBool_mk _, rfl⟩

set_option maxHeartbeats 400000 in
theorem bytes13 (a : Option Addr) (len cap : Nat) (k0 : Int) (x : ByteArray) (F : Nat → ByteArray) (w : World) (hm : len ≤ maxLen) (hx : x.size ≤ maxLen) (hS : IsStrs w a len F) (hF : ∀ i, i < len → (F i).size ≤ maxLen) :
    Calls Tryd.prog 13 #[.slice a len cap, .int .i64 k0, .string x] w fun e w' => SomeBool e ∧ w' = w := by
  unfold maxLen at hm hx
  by_cases h0 : len ≤ 1048576
  · go_enter Tryd.func13, Tryd.ntmps13
    go_wp2
    go_loop [7, 8] (fun t i => ∃ k z : Nat, k ≤ len ∧ i = .int .i64 k ∧ z ≤ 1048576 ∧ t = .int .i64 z) (fun _ i => len - (intOf i).toNat)
    case atStart => exact ⟨0, len, Nat.zero_le _, rfl, h0, rfl⟩
    case round =>
      obtain ⟨k, z, hk, rfl, hz, rfl⟩ := hrel
      by_cases hlt : k < len
      · obtain ⟨b, off, rfl, hcell⟩ := hS k hlt
        have hFk := hF k hlt
        unfold maxLen at hFk
        go_wp2
        · go_ret
          exact ⟨someBool_mk _, rfl⟩
        · go_ret
          exact ⟨someBool_mk _, rfl⟩
        · go_round
          case rel => exact ⟨k + 1, z + (F k).size, by omega, by go_num, by omega, by go_num⟩
          case measure => simp [intOf]; omega
      · go_wp2
        all_goals
          go_ret
          exact ⟨someBool_mk _, rfl⟩
  · go_enter Tryd.func13, Tryd.ntmps13
    go_wp2
    go_ret
    exact ⟨someBool_mk _, rfl⟩

/-- Is the string empty (as the walk asks it)? -/
def em (s : ByteArray) : Bool := s.toList.isEmpty
def NoE (F : Nat → ByteArray) (n : Nat) : Prop := ∀ i, i < n → (F i).toList.isEmpty = false
def FirstE (F : Nat → ByteArray) (n m : Nat) : Prop := m < n ∧ (F m).toList.isEmpty = true ∧ ∀ i, i < m → (F i).toList.isEmpty = false

theorem first_or_no (F : Nat → ByteArray) : ∀ n, NoE F n ∨ ∃ m, FirstE F n m
  | 0 => .inl fun i h => by omega
  | n + 1 => by
    rcases first_or_no F n with h | ⟨m, h1, h2, h3⟩
    · cases he : (F n).toList.isEmpty
      · exact .inl fun i hi => by
          by_cases e : i = n
          · subst e; exact he
          · exact h i (by omega)
      · exact .inr ⟨n, by omega, he, h⟩
    · exact .inr ⟨m, by omega, h2, h3⟩

set_option maxHeartbeats 400000 in
theorem has_no (a : Option Addr) (len cap : Nat) (F : Nat → ByteArray) (w : World) (hm : len ≤ 65536) (hS : IsStrs w a len F) (hN : NoE F len) :
    Calls Tryd.prog 10 #[.slice a len cap] w fun e w' => e = .returned (.bool false) ∧ w' = w := by
  go_enter Tryd.func10, Tryd.ntmps10
  go_wp2
  go_loop [3] (fun i => ∃ k : Nat, k ≤ len ∧ i = .int .i64 k) (fun i => len - (intOf i).toNat)
  case atStart => exact ⟨0, Nat.zero_le _, rfl⟩
  case round =>
    obtain ⟨k, hk, rfl⟩ := hrel
    by_cases hlt : k < len
    · obtain ⟨b, off, rfl, hcell⟩ := hS k hlt
      have hn := hN k hlt
      go_wp2
      go_round
      case rel => exact ⟨k + 1, by omega, by go_num⟩
      case measure => simp [intOf]; omega
    · go_wp2
      go_ret
      exact ⟨rfl, rfl⟩

set_option maxHeartbeats 400000 in
theorem has_first (a : Option Addr) (len cap m : Nat) (F : Nat → ByteArray) (w : World) (hm : len ≤ 65536) (hS : IsStrs w a len F) (hN : FirstE F len m) :
    Calls Tryd.prog 10 #[.slice a len cap] w fun e w' => e = .returned (.bool true) ∧ w' = w := by
  obtain ⟨h1, h2, h3⟩ := hN
  go_enter Tryd.func10, Tryd.ntmps10
  go_wp2
  go_loop [3] (fun i => ∃ k : Nat, k ≤ m ∧ i = .int .i64 k) (fun i => len - (intOf i).toNat)
  case atStart => exact ⟨0, Nat.zero_le _, rfl⟩
  case round =>
    obtain ⟨k, hk, rfl⟩ := hrel
    have hlt : k < len := by omega
    obtain ⟨b, off, rfl, hcell⟩ := hS k hlt
    by_cases hkm : k < m
    · have hn := h3 k hkm
      clear h2
      go_wp2
      go_round
      case rel => exact ⟨k + 1, by omega, by go_num⟩
      case measure => simp [intOf]; omega
    · obtain rfl : k = m := by omega
      go_wp2
      go_ret
      exact ⟨rfl, rfl⟩
end Go.Proofs.Qxb6613651aDoor

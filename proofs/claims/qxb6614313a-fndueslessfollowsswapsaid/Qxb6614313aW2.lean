import Derived.Test.Qxb6614313aW1
import Derived.WalkKit
import Derived.WalkSpells
import Derived.WalkLawsBesides
import Derived.Deep.QuietTactic
import Derived.BigQuiet
import Derived.BigRegion
import Derived.RegionTactic
namespace Go.Proofs.Qxb6614313a
open Go.RowKit

set_option maxHeartbeats 800000 in
theorem swap8 (g i j n c V1 V2 : Nat) (w : World) (hi : i < n) (hj : j < n) (_hn : n ≤ 65536) (hij : i ≠ j) (hc1 : w.cell? ⟨g, i, none⟩ = some (.pointer (some ⟨V1, 0, none⟩))) (hc2 : w.cell? ⟨g, j, none⟩ = some (.pointer (some ⟨V2, 0, none⟩)))
    (f1 : w.frozen? ⟨g, i, none⟩ = false) (f2 : w.frozen? ⟨g, j, none⟩ = false) :
    Calls Try.prog 8 #[.slice (some ⟨g, 0, none⟩) n c, .int .i64 i, .int .i64 j] w fun e w' => e = .returned (.tuple #[]) ∧ w' = ((w.setCell ⟨g, i, none⟩ (.pointer (some ⟨V2, 0, none⟩))).setCell ⟨g, j, none⟩ (.pointer (some ⟨V1, 0, none⟩))).drew := by
  go_enter Try.func8, Try.ntmps8
  go_wp2
  go_region
  all_goals
    go_wp2
    go_end0
    exact ⟨rfl, rfl⟩

set_option maxHeartbeats 800000 in
theorem swap8_same (g i n c V1 : Nat) (w : World) (hi : i < n) (_hn : n ≤ 65536) (hc1 : w.cell? ⟨g, i, none⟩ = some (.pointer (some ⟨V1, 0, none⟩))) (f1 : w.frozen? ⟨g, i, none⟩ = false) :
    Calls Try.prog 8 #[.slice (some ⟨g, 0, none⟩) n c, .int .i64 i, .int .i64 i] w fun e w' => e = .returned (.tuple #[]) ∧ w' = ((w.setCell ⟨g, i, none⟩ (.pointer (some ⟨V1, 0, none⟩))).setCell ⟨g, i, none⟩ (.pointer (some ⟨V1, 0, none⟩))).drew := by
  go_enter Try.func8, Try.ntmps8
  go_wp2
  go_region
  all_goals
    go_wp2
    go_end0
    exact ⟨rfl, rfl⟩

/-- Where the element that stands at k behind the exchange of i and j stood before. -/
def sw (i j k : Nat) : Nat := if k = i then j else if k = j then i else k

set_option maxHeartbeats 800000 in
theorem swapped9 (b off n cap i j x : Nat) (F : Nat → Int) (w : World) (hi : i < n) (hj : j < n) (hx : x < n) (_hn : n ≤ 65536) (hF : ∀ k, k < n → w.cell? ⟨b, off + k, none⟩ = some (.int .i64 (F k))) :
    Calls Try.prog 9 #[.slice (some ⟨b, off, none⟩) n cap, .int .i64 i, .int .i64 j, .int .i64 x] w fun e w' => e = .returned (.int .i64 (F (sw i j x))) ∧ w' = w := by
  have h1 := hF i hi
  have h2 := hF j hj
  have h3 := hF x hx
  unfold sw
  by_cases hxi : x = i
  · subst hxi
    rw [if_pos rfl]
    go_enter Try.func9, Try.ntmps9
    go_wp2
    go_ret
    exact ⟨rfl, rfl⟩
  · rw [if_neg hxi]
    by_cases hxj : x = j
    · subst hxj
      rw [if_pos rfl]
      go_enter Try.func9, Try.ntmps9
      go_wp2
      go_ret
      exact ⟨rfl, rfl⟩
    · rw [if_neg hxj]
      go_enter Try.func9, Try.ntmps9
      go_wp2
      go_ret
      exact ⟨rfl, rfl⟩

set_option maxHeartbeats 800000 in
theorem bytes5_yes (a : Option Addr) (n cap : Nat) (i j p q : Int) (w : World) (hn : n ≤ 1048576) :
    Calls Try.prog 5 #[.slice a n cap, .int .i64 i, .int .i64 j, .int .i64 p, .int .i64 q] w fun e w' => e = .returned (.bool true) ∧ w' = w := by
  go_enter Try.func5, Try.ntmps5
  go_wp2
  go_ret
  exact ⟨rfl, rfl⟩
set_option maxHeartbeats 800000 in
theorem bytes5_no (a : Option Addr) (n cap : Nat) (i j p q : Int) (w : World) (hn : 1048576 < n) :
    Calls Try.prog 5 #[.slice a n cap, .int .i64 i, .int .i64 j, .int .i64 p, .int .i64 q] w fun e w' => e = .returned (.bool false) ∧ w' = w := by
  go_enter Try.func5, Try.ntmps5
  go_wp2
  go_ret
  exact ⟨rfl, rfl⟩
end Go.Proofs.Qxb6614313a

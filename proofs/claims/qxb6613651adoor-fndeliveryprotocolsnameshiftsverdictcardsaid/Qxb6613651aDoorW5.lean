import Derived.Test.Qxb6613651aDoorW4
namespace Go.Proofs.Qxb6613651aDoor
open Go.RowKit

set_option maxHeartbeats 400000 in
theorem chk_first (a : Option Addr) (len cap m : Nat) (F : Nat → ByteArray) (w : World) (hm : len ≤ 65537) (hS : IsStrs w a len F) (hN : FirstE F len m) (hIt : ItoaAt w m) :
    Calls Tryd.prog 9 #[.slice a len cap] w fun e w' => e = .returned (.tuple #[.bool true, .bool true, .string (keyOf m), .string dpEmpty]) ∧ Below w.heap.size w w' := by
  have hB0 : Below w.heap.size w (w.alloc (.cells #[.slice a len cap] 40)) := (Below.refl _ _).alloc (Nat.le_refl _) _
  have hS1 := isStrs_below hS hB0
  have hIt1 := hIt.later hB0
  have HS : Hid (IsStrs w a len F) := hS
  have HI : Hid (ItoaAt w m) := hIt
  clear hS hIt
  go_enter Tryd.func9, Tryd.ntmps9
  go_wp2_with (first
    | (go_at_call 20; go_in)
    | (go_at_call 27; refine (names_first a len cap m F _ hm hS1 hN hIt1).mono ?_; rintro e w1 ⟨N, rfl, hc0, hc1, hB1⟩)
    | (go_at_call 19; refine (unpack_err N (keyOf m) dpEmpty _ hc0 hc1).mono ?_; rintro e w2 ⟨rfl, hB2⟩))
  (try simp only [Exit.inBlock, Exit.then])
  refine bodyPost_ret (results_tmp4 rfl _ _ _) rfl ?_
  exact ⟨rfl, (hB0.trans (hB1.mono hB0.size)).trans (hB2.mono (Nat.le_trans hB0.size hB1.size))⟩

set_option maxHeartbeats 400000 in
theorem chk_none (g off len cap : Nat) (F : Nat → ByteArray) (w : World) (hm : len ≤ 65537) (hS : IsStrs w (some ⟨g, off, none⟩) len F) (hN : NoE F len) :
    Calls Tryd.prog 9 #[.slice (some ⟨g, off, none⟩) len cap] w fun e w' => e = .returned (.tuple #[.bool false, .bool false, .string ⟨#[]⟩, .string ⟨#[]⟩]) ∧ Below w.heap.size w w' := by
  have hB0 : Below w.heap.size w (w.alloc (.cells #[.slice (some ⟨g, off, none⟩) len cap] 40)) := (Below.refl _ _).alloc (Nat.le_refl _) _
  have hS1 := isStrs_below hS hB0
  have HS : Hid (IsStrs w (some ⟨g, off, none⟩) len F) := hS
  clear hS
  go_enter Tryd.func9, Tryd.ntmps9
  go_wp2_with (first
    | (go_at_call 20; go_in)
    | (go_at_call 27; refine (names_none g off len cap F _ hm hS1 hN).mono ?_; rintro e w1 ⟨rfl, rfl⟩)
    | (go_at_call 19; refine (unpack_nil _).mono ?_; rintro e w2 ⟨rfl, rfl⟩))
  (try simp only [Exit.inBlock, Exit.then])
  refine bodyPost_ret (results_tmp4 rfl _ _ _) rfl ?_
  exact ⟨rfl, hB0⟩

set_option maxHeartbeats 400000 in
theorem chk_nil (w : World) :
    Calls Tryd.prog 9 #[.slice none 0 0] w fun e w' => e = .returned (.tuple #[.bool true, .bool true, .string dpKey, .string dpMissing]) ∧ Below w.heap.size w w' := by
  have hB0 : Below w.heap.size w (w.alloc (.cells #[.slice none 0 0] 40)) := (Below.refl _ _).alloc (Nat.le_refl _) _
  go_enter Tryd.func9, Tryd.ntmps9
  go_wp2_with (first
    | (go_at_call 20; go_in)
    | (go_at_call 27; refine (names_nil _).mono ?_; rintro e w1 ⟨N, rfl, hc0, hc1, hB1⟩)
    | (go_at_call 19; refine (unpack_err N dpKey dpMissing _ hc0 hc1).mono ?_; rintro e w2 ⟨rfl, hB2⟩))
  (try simp only [Exit.inBlock, Exit.then])
  refine bodyPost_ret (results_tmp4 rfl _ _ _) rfl ?_
  exact ⟨rfl, (hB0.trans (hB1.mono hB0.size)).trans (hB2.mono (Nat.le_trans hB0.size hB1.size))⟩
end Go.Proofs.Qxb6613651aDoor

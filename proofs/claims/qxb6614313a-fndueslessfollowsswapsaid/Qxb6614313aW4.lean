import Derived.Test.Qxb6614313aW3
import Derived.Deep.Light
namespace Go.Proofs.Qxb6614313a
open Go.RowKit

set_option maxHeartbeats 1600000 in
theorem law_big (a : Option Addr) (n cap : Nat) (i j p q : Int) (w : World) (hn : 1048576 < n) :
    Calls Try.prog 3 #[.slice a n cap, .int .i64 i, .int .i64 j, .int .i64 p, .int .i64 q] w fun e w' => e = .returned (.bool true) ∧ Below w.heap.size w w' := by
  go_enter Try.func3, Try.ntmps3
  go_wp2_with fail
  refine (bytes5_no a n cap i j p q w hn).mono ?_
  rintro e w' ⟨rfl, rfl⟩
  go_wp2_with fail
  go_ret
  exact ⟨rfl, Below.refl _ _⟩
set_option maxHeartbeats 1600000 in
theorem law_mid (a : Option Addr) (n cap : Nat) (i j p q : Int) (w : World) (hn : n ≤ 1048576) (h2 : 65536 < n) :
    Calls Try.prog 3 #[.slice a n cap, .int .i64 i, .int .i64 j, .int .i64 p, .int .i64 q] w fun e w' => e = .returned (.bool true) ∧ Below w.heap.size w w' := by
  go_enter Try.func3, Try.ntmps3
  go_wp2_with fail
  refine (bytes5_yes a n cap i j p q w hn).mono ?_
  rintro e w' ⟨rfl, rfl⟩
  go_wp2_with fail
  go_ret
  exact ⟨rfl, Below.refl _ _⟩
set_option maxHeartbeats 1600000 in
theorem law_out (a : Option Addr) (n cap : Nat) (i j p q : Int) (w : World) (hn : n ≤ 65536) (h : i < 0 ∨ (n : Int) ≤ i ∨ j < 0 ∨ (n : Int) ≤ j ∨ p < 0 ∨ (n : Int) ≤ p ∨ q < 0 ∨ (n : Int) ≤ q) :
    Calls Try.prog 3 #[.slice a n cap, .int .i64 i, .int .i64 j, .int .i64 p, .int .i64 q] w fun e w' => e = .returned (.bool true) ∧ Below w.heap.size w w' := by
  go_enter Try.func3, Try.ntmps3
  go_wp2_with fail
  refine (bytes5_yes a n cap i j p q w (by omega)).mono ?_
  rintro e w' ⟨rfl, rfl⟩
  go_wp2_with fail
  all_goals
    go_ret
    exact ⟨rfl, Below.refl _ _⟩
theorem sw_left (i j : Nat) : sw i j i = j := by simp [sw]
theorem sw_right (i j : Nat) : sw i j j = i := by unfold sw; split <;> simp_all

set_option maxHeartbeats 1600000 in
theorem law_in (b off n cap i j p q : Nat) (F : Nat → Int) (w : World) (hn : n ≤ 65536) (hi : i < n) (hj : j < n) (hp : p < n) (hq : q < n) (hF : ∀ k, k < n → w.cell? ⟨b, off + k, none⟩ = some (.int .i64 (F k))) (hI : ∀ k, k < n → InI (F k)) :
    Calls Try.prog 3 #[.slice (some ⟨b, off, none⟩) n cap, .int .i64 i, .int .i64 j, .int .i64 p, .int .i64 q] w fun e w' => e = .returned (.bool true) ∧ Below w.heap.size w w' := by
  have HF : Hid _ := hF
  have HI : Hid _ := hI
  clear hF hI
  go_enter Try.func3, Try.ntmps3
  go_wp2_with fail
  refine (bytes5_yes _ n cap i j p q w (by omega)).mono ?_
  rintro e w' ⟨rfl, hw⟩
  obtain rfl := hw.symm
  go_wp2_with fail
  refine (build6 b off n cap F w hn HF.out HI).mono ?_
  rintro e w1 ⟨rfl, hB⟩
  obtain ⟨V, hD⟩ := hB.dues
  have HD1 : Hid _ := hD
  clear hD hB
  go_wp2_with fail
  refine (less_any HD1.out hn hi hj).mono ?_
  rintro e w2 ⟨rfl, hD⟩
  have HD2 : Hid _ := hD
  obtain ⟨b1, hb1⟩ : ∃ b1, Hid (b1 = decide (F i < F j)) := ⟨_, rfl⟩
  rw [← hb1.out]
  clear hD HD1
  go_wp2_with fail
  refine (swap_any HD2.out hn hi hj).mono ?_
  rintro e w3 ⟨rfl, hD⟩
  have HD3 : Hid _ := hD
  clear hD HD2
  go_wp2_with fail
  refine (less_any HD3.out hn hp hq).mono ?_
  rintro e w4 ⟨rfl, hD⟩
  have HD4 : Hid _ := hD
  obtain ⟨G, hG⟩ : ∃ G : Nat → Int, Hid (∀ x, G x = F (sw i j x)) := ⟨_, fun _ => rfl⟩
  rw [← hG.out p, ← hG.out q]
  clear hD HD3
  go_wp2_with fail
  refine (less_any HD4.out hn hj hi).mono ?_
  rintro e w5 ⟨rfl, hD⟩
  rw [sw_left, sw_right, ← hb1.out]
  have HB : Hid (Below w.heap.size w w5) := hD.bel
  have hF5 : Hid (∀ k, k < n → w5.cell? ⟨b, off + k, none⟩ = some (.int .i64 (F k))) := fun k hk => cell_later hD.bel (HF.out k hk)
  have c1 := hF5.out i hi
  have c2 := hF5.out j hj
  have S : Hid (∀ m x, x < n → Calls Try.prog 9 #[.slice (some ⟨b, off, none⟩) n cap, .int .i64 i, .int .i64 j, .int .i64 x] (w5.drewN m) fun e w' => e = .returned (.int .i64 (G x)) ∧ w' = w5.drewN m) := fun m x hx => by
    rw [hG.out]
    exact swapped9 b off n cap i j x F _ hi hj hx hn (fun k hk => hF5.out k hk)
  have e1 : (b1 == decide (F i < F j)) = true := by rw [hb1.out]; simp
  clear hD HD4 hF5 HF HI hG hb1
  generalize F i = x at *
  generalize F j = y at *
  have e2 : (b1 == b1) = true := by simp
  have e3 : (decide (G p < G q) == decide (G p < G q)) = true := by simp
  go_wp2_with fail
  go_quiet ((go_at_call 9; refine Calls.quiet_of_same (S.out _ _ (by assumption))))
  go_wp2
  go_ret
  exact ⟨rfl, below_drewN HB.out _⟩
end Go.Proofs.Qxb6614313a

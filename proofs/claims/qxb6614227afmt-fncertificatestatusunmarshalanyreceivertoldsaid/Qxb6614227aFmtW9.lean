import Derived.Test.Qxb6614227aFmtW8
namespace Go.Proofs.Qxb6614227aFmt
open Go.RowKit Go.Extern.Stop Go.Stop Go.Extern

set_option maxHeartbeats 800000 in
theorem bytes6_yes (x : Int) (a a2 : Option Addr) (n cap m cap2 : Nat) (w : World) (h : n + m ≤ 1048576) :
    Calls Tryf.prog 6 #[.int .u8 x, .slice a n cap, .slice a2 m cap2] w fun e w' => e = .returned (.bool true) ∧ w' = w := by
  go_enter Tryf.func6, Tryf.ntmps6
  go_wp2
  go_ret
  exact ⟨rfl, rfl⟩
set_option maxHeartbeats 800000 in
theorem bytes6_no (x : Int) (a a2 : Option Addr) (n cap m cap2 : Nat) (w : World) (h : 1048576 < n + m) (hn : n ≤ maxLen) (hm : m ≤ maxLen) :
    Calls Tryf.prog 6 #[.int .u8 x, .slice a n cap, .slice a2 m cap2] w fun e w' => e = .returned (.bool false) ∧ w' = w := by
  unfold maxLen at hn hm
  go_enter Tryf.func6, Tryf.ntmps6
  go_wp2
  all_goals
    go_ret
    exact ⟨rfl, rfl⟩

theorem clone_any (a : Option Addr) (n cap : Nat) (G : Nat → Nat) (w : World) (hn : n ≤ 1048576) (hnil : a = none → n = 0 ∧ cap = 0) (hG : IsBytes w a n G) :
    Calls Tryf.prog 7 #[.slice a n cap] w fun e w' => ∃ ain, e = .returned (.slice ain n n) ∧ Below w.heap.size w w' ∧ (0 < n → ain = some ⟨w.heap.size, 0, none⟩) ∧ ∀ i, i < n → w'.cell? ⟨w.heap.size, i, none⟩ = some (.int .u8 (G i)) := by
  cases a with
  | none =>
    obtain ⟨rfl, rfl⟩ := hnil rfl
    refine (clone_nil w).mono ?_
    rintro e w' ⟨rfl, rfl⟩
    exact ⟨_, rfl, Below.refl _ _, fun h => absurd h (by omega), fun i hi => absurd hi (by omega)⟩
  | some ad =>
    refine (clone7 ad n cap G w hn hG).mono ?_
    rintro e w' ⟨rfl, hF, _⟩
    exact ⟨_, rfl, hF.bel, fun _ => rfl, hF.done⟩

/-- Does an accepted body bear a response? -/
def rsOf (n : Nat) (G : Nat → Nat) : Bool := okB n G && decide (G 0 = 1)

set_option maxHeartbeats 800000 in
theorem st8_empty (a : Option Addr) (cap : Nat) (w : World) :
    Calls Tryf.prog 8 #[.slice a 0 cap] w fun e w' => e = .returned (.tuple #[.bool false, .int .u8 0, .bool false]) ∧ w' = w := by
  go_enter Tryf.func8, Tryf.ntmps8
  go_wp2
  go_ret3
  exact ⟨rfl, rfl⟩
set_option maxHeartbeats 800000 in
theorem st8_other (b off n cap x : Nat) (w : World) (h0 : 0 < n) (hx : ((x : Int) != 1) = true) (hc : w.cell? ⟨b, off, none⟩ = some (.int .u8 x)) :
    Calls Tryf.prog 8 #[.slice (some ⟨b, off, none⟩) n cap] w fun e w' => e = .returned (.tuple #[.bool true, .int .u8 x, .bool false]) ∧ ∃ k, w' = w.drewN k := by
  have hi : (0 : Int) < (n : Int) := by omega
  go_enter Tryf.func8, Tryf.ntmps8
  go_wp2
  go_quiet (fail)
  go_wp2
  go_ret3
  exact ⟨rfl, _, rfl⟩
set_option maxHeartbeats 800000 in
theorem st8_short (b off n cap : Nat) (w : World) (h0 : 0 < n) (h4 : n < 4) (hc : w.cell? ⟨b, off, none⟩ = some (.int .u8 1)) :
    Calls Tryf.prog 8 #[.slice (some ⟨b, off, none⟩) n cap] w fun e w' => e = .returned (.tuple #[.bool false, .int .u8 1, .bool false]) ∧ w' = w := by
  go_enter Tryf.func8, Tryf.ntmps8
  go_wp2
  go_ret3
  exact ⟨rfl, rfl⟩
theorem wrap_64 (v : Int) : IntKind.i64.wrap v = wrap64 v := by rw [IntKind.wrap_i64, wrap64]
theorem n24_eq64 {x y z : Nat} (hx : x ≤ 255) (hy : y ≤ 255) (hz : z ≤ 255) : bits .or .i64 (bits .or .i64 (wrap64 (wrap64 (x : Int) * 65536)) (wrap64 (wrap64 (y : Int) * 256))) (wrap64 (z : Int)) = (n24 x y z : Int) := by
  have := n24_eq hx hy hz
  simpa only [wrap_64] using this

set_option maxHeartbeats 1600000 in
theorem st8_long (b off n cap x y z N : Nat) (w : World) (h4 : 4 ≤ n) (hl : n ≤ 1048576) (hc : w.cell? ⟨b, off, none⟩ = some (.int .u8 1)) (hx : w.cell? ⟨b, off + 1, none⟩ = some (.int .u8 x)) (hy : w.cell? ⟨b, off + 2, none⟩ = some (.int .u8 y)) (hz : w.cell? ⟨b, off + 3, none⟩ = some (.int .u8 z)) (bx : x ≤ 255) (by_ : y ≤ 255) (bz : z ≤ 255) (hN : n24 x y z = N) (ok : Bool) (hok : ok = decide (N ≠ 0 ∧ n = 4 + N)) :
    Calls Tryf.prog 8 #[.slice (some ⟨b, off, none⟩) n cap] w fun e w' => e = .returned (.tuple #[.bool ok, .int .u8 1, .bool ok]) ∧ ∃ k, w' = w.drewN k := by
  have i1 : (1 : Int) < (n : Int) := by omega
  have i2 : (2 : Int) < (n : Int) := by omega
  have i3 : (3 : Int) < (n : Int) := by omega
  have hlt := n24_lt bx by_ bz
  have HE : Hid (bits .or .i64 (bits .or .i64 (wrap64 (wrap64 (x : Int) * 65536)) (wrap64 (wrap64 (y : Int) * 256))) (wrap64 (z : Int)) = (n24 x y z : Int)) := n24_eq64 bx by_ bz
  rw [hN] at HE hlt
  clear hN bx by_ bz
  go_enter Tryf.func8, Tryf.ntmps8
  go_wp2
  go_quiet (fail)
  rw [HE.out]
  clear HE
  by_cases h0 : N = 0
  · subst h0
    obtain rfl : ok = false := by rw [hok]; simp
    clear hok
    go_wp2
    go_ret3
    exact ⟨rfl, _, rfl⟩
  · by_cases h5 : n = 4 + N
    · subst h5
      obtain rfl : ok = true := by rw [hok]; simp [h0]
      clear hok
      have e1 : ((N : Int) == 0) = false := by simp; omega
      have e2 : ((4 + N : Nat) : Int) = 4 + (N : Int) := by omega
      have e3 : (4 + (N : Int) != 4 + (N : Int)) = false := by simp
      go_wp2
      go_ret3
      exact ⟨rfl, _, rfl⟩
    · obtain rfl : ok = false := by rw [hok]; simp; omega
      clear hok
      have e1 : ((N : Int) == 0) = false := by simp; omega
      have e3 : ((n : Int) != 4 + (N : Int)) = true := by simp; omega
      go_wp2
      go_ret3
      exact ⟨rfl, _, rfl⟩

theorem st8 (a : Option Addr) (n cap : Nat) (G : Nat → Nat) (w : World) (hl : n ≤ 1048576) (hG : IsBytes w a n G) (bG : ∀ i, i < n → G i ≤ 255) :
    Calls Tryf.prog 8 #[.slice a n cap] w fun e w' => e = .returned (.tuple #[.bool (okB n G), .int .u8 (tyOf n G), .bool (rsOf n G)]) ∧ ∃ k, w' = w.drewN k := by
  by_cases h0 : n = 0
  · subst h0
    refine (st8_empty a cap w).mono ?_
    rintro e w' ⟨rfl, rfl⟩
    exact ⟨by simp [okB, rsOf, tyOf], 0, rfl⟩
  · obtain ⟨b, off, rfl, hc⟩ := hG 0 (by omega)
    rw [Nat.add_zero] at hc
    have hty : tyOf n G = G 0 := by simp [tyOf, h0]
    by_cases h1 : G 0 = 1
    · rw [h1] at hc
      by_cases h4 : n < 4
      · refine (st8_short b off n cap w (by omega) h4 hc).mono ?_
        rintro e w' ⟨rfl, rfl⟩
        have hk : okB n G = false := by simp [okB, h1]; omega
        exact ⟨by simp [rsOf, hk, hty, h1], 0, rfl⟩
      · refine (st8_long b off n cap (G 1) (G 2) (G 3) _ w (by omega) hl hc (isBytes_at hG (by omega)) (isBytes_at hG (by omega)) (isBytes_at hG (by omega)) (bG 1 (by omega)) (bG 2 (by omega)) (bG 3 (by omega)) rfl (okB n G) ?_).mono ?_
        · simp only [okB, h1]
          apply decide_eq_decide.2
          omega
        · rintro e w' ⟨rfl, k, rfl⟩
          exact ⟨by simp [rsOf, hty, h1], k, rfl⟩
    · refine (st8_other b off n cap (G 0) w (by omega) (by simp; omega) hc).mono ?_
      rintro e w' ⟨rfl, k, rfl⟩
      have hk : okB n G = true := by simp [okB, h1]; omega
      exact ⟨by simp [rsOf, hk, hty, h1], k, rfl⟩

set_option maxHeartbeats 1600000 in
theorem same19 (b1 o1 b2 o2 L c1 c2 : Nat) (J : Nat → Nat) (w : World) (hL : L ≤ 1048576) (h1 : ∀ i, i < L → w.cell? ⟨b1, o1 + i, none⟩ = some (.int .u8 (J i))) (h2 : ∀ i, i < L → w.cell? ⟨b2, o2 + i, none⟩ = some (.int .u8 (J i))) :
    Calls Tryf.prog 19 #[.slice (some ⟨b1, o1, none⟩) L c1, .slice (some ⟨b2, o2, none⟩) L c2] w fun e w' => e = .returned (.bool true) ∧ ∃ k, w' = w.drewN k := by
  have H1 : Hid _ := h1
  have H2 : Hid _ := h2
  clear h1 h2
  have hne : ((L : Int) != (L : Int)) = false := by simp
  go_enter Tryf.func19, Tryf.ntmps19
  go_wp2_with fail
  go_loopw [4, 5] (fun r i wr => ∃ k c : Nat, k ≤ L ∧ i = .int .i64 k ∧ wr = w.drewN c) (fun _ i _ => L - (intOf i).toNat)
  case atStart => exact ⟨0, 0, by omega, rfl, rfl⟩
  case round =>
    obtain ⟨k, c, hk, rfl, rfl⟩ := hrel
    by_cases hlt : k < L
    · have k1 : (w.drewN c).cell? ⟨b1, o1 + k, none⟩ = some (.int .u8 (J k)) := H1.out k hlt
      have k2 : (w.drewN c).cell? ⟨b2, o2 + k, none⟩ = some (.int .u8 (J k)) := H2.out k hlt
      obtain ⟨wc, hwc⟩ : ∃ wc, Hid (wc = w.drewN c) := ⟨_, rfl⟩
      rw [← hwc.out] at k1 k2 ⊢
      generalize J k = v at *
      have hvv : ((v : Int) != (v : Int)) = false := by simp
      clear H1 H2
      go_wp2_with fail
      go_quiet (fail)
      go_wp2_with fail
      go_roundw
      case rel => exact ⟨k + 1, _, by omega, by go_num, by rw [hwc.out, World.drewN_drewN]⟩
      case measure => simp [intOf]; omega
    · obtain rfl : k = L := by omega
      go_wp2_with fail
      go_ret
      exact ⟨rfl, _, rfl⟩
end Go.Proofs.Qxb6614227aFmt

import Derived.Test.Qxb6613651aDoorW3
import Derived.Deep.QuietTactic
import Derived.BigQuiet
namespace Go.Proofs.Qxb6613651aDoor
open Go.RowKit

def dpKey : ByteArray := ⟨#[100, 101, 108, 105, 118, 101, 114, 121, 45, 112, 114, 111, 116, 111, 99, 111, 108, 115]⟩
def dpMissing : ByteArray := ⟨#[109, 105, 115, 115, 105, 110, 103]⟩
def dpEmpty : ByteArray := ⟨#[101, 109, 112, 116, 121, 58, 32, 119, 97, 110, 116, 32, 97, 32, 110, 97, 109, 101]⟩
def keyOf (m : Nat) : ByteArray := dpKey ++ ⟨#[91]⟩ ++ ⟨(Lib.decDigits m).toArray⟩ ++ ⟨#[93]⟩

/-- strconv.Itoa at m, in every world that is w with more: what checkNames asks. -/
def ItoaAt (w : World) (m : Nat) : Prop := ∀ w1, Below w.heap.size w w1 → Calls Tryd.prog 32 #[.int .i64 m] w1 fun e w' => e = .returned (.string ⟨(Lib.decDigits m).toArray⟩) ∧ Below w1.heap.size w1 w'

theorem ItoaAt.later {w w1 : World} {m : Nat} (h : ItoaAt w m) (hb : Below w.heap.size w w1) : ItoaAt w1 m := fun w2 h2 => h w2 (hb.trans (h2.mono hb.size))

theorem digits7 {m : Nat} (h : m < 10000000) : (Lib.decDigits m).length ≤ 7 := by
  rw [Lib.decDigits_length]
  by_cases h0 : m = 0
  · subst h0; rw [Lib.nDigits_small (by decide)]; decide
  · rcases Nat.lt_or_ge 7 (Lib.nDigits m) with h' | h'
    · obtain ⟨k, hk⟩ : ∃ k, Lib.nDigits m = k + 1 := ⟨Lib.nDigits m - 1, by omega⟩
      have : 10 ^ k ≤ m := by
        rcases Nat.lt_or_ge m (10 ^ k) with h2 | h2
        · exfalso
          have key : ∀ u j, u < 10 ^ j → 1 ≤ j → Lib.nDigits u ≤ j := by
            intro u
            induction u using Nat.strongRecOn with
            | _ u ih =>
              intro j hj h1
              by_cases hu : u < 10
              · rw [Lib.nDigits_small hu]; exact h1
              · rw [Lib.nDigits_big hu]
                obtain ⟨i, rfl⟩ : ∃ i, j = i + 1 := ⟨j - 1, by omega⟩
                rw [Nat.pow_succ] at hj
                have hi : 1 ≤ i := by
                  rcases Nat.eq_zero_or_pos i with e | e
                  · subst e; omega
                  · exact e
                have := ih (u / 10) (by omega) i (by omega) hi
                omega
          have := key m k h2 (by omega)
          omega
        · exact h2
      have h8 : 10 ^ 7 ≤ 10 ^ k := Nat.pow_le_pow_right (by decide) (by omega)
      omega
    · exact h'

set_option maxHeartbeats 400000 in
theorem names_first (a : Option Addr) (len cap m : Nat) (F : Nat → ByteArray) (w : World) (hm : len ≤ 65537) (hS : IsStrs w a len F) (hN : FirstE F len m) (hIt : ItoaAt w m) :
    Calls Tryd.prog 27 #[.string dpKey, .slice a len cap, .bool true] w fun e w' =>
      ∃ N, e = .returned (.iface 47 (.pointer (some ⟨N, 0, none⟩))) ∧ w'.cell? ⟨N, 0, none⟩ = some (.string (keyOf m)) ∧ w'.cell? ⟨N, 1, none⟩ = some (.string dpEmpty) ∧ Below w.heap.size w w' := by
  obtain ⟨h1, h2, h3⟩ := hN
  obtain ⟨b0, off0, rfl, _⟩ := hS m h1
  have hnil := fun w => Lib.run_eql_slice_nil (P := Tryd.prog) w 22 9 (some ⟨b0, off0, none⟩) len cap 0 0 Tryd.underlying22
  go_enter Tryd.func27, Tryd.ntmps27
  go_wp2
  clear hnil
  go_loop [6, 20] (fun r i => ∃ k : Nat, k ≤ m ∧ i = .int .i64 k) (fun _ i => len - (intOf i).toNat)
  case atStart => exact ⟨0, Nat.zero_le _, rfl⟩
  case round =>
    obtain ⟨k, hk, rfl⟩ := hrel
    have hlt : k < len := by omega
    obtain ⟨b, off, hbo, hcell⟩ := hS k hlt
    simp only [Option.some.injEq, Addr.mk.injEq, and_true] at hbo
    obtain ⟨rfl, rfl⟩ := hbo
    by_cases hkm : k < m
    · have hn := h3 k hkm
      clear h2
      go_wp2_with fail
      go_round
      case rel => exact ⟨k + 1, by omega, by go_num⟩
      case measure => simp [intOf]; omega
    · obtain rfl : k = m := by omega
      have hsz : dpKey.size ≤ 18 := by decide
      have hdl : (Lib.decDigits k).length ≤ 7 := digits7 (by omega)
      go_wp2_with (go_at_call 32; refine (hIt _ (Below.refl _ _)).mono ?_; rintro e w1 ⟨rfl, hB1⟩)
      go_ret
      exact ⟨w1.heap.size, rfl, World.cell?_alloc_new _ _ _ _, World.cell?_alloc_new _ _ _ _, hB1.alloc hB1.size _⟩

set_option maxHeartbeats 400000 in
theorem names_none (g off len cap : Nat) (F : Nat → ByteArray) (w : World) (hm : len ≤ 65537) (hS : IsStrs w (some ⟨g, off, none⟩) len F) (hN : NoE F len) :
    Calls Tryd.prog 27 #[.string dpKey, .slice (some ⟨g, off, none⟩) len cap, .bool true] w fun e w' => e = .returned .nilIface ∧ w' = w := by
  have hnil := fun w => Lib.run_eql_slice_nil (P := Tryd.prog) w 22 9 (some ⟨g, off, none⟩) len cap 0 0 Tryd.underlying22
  go_enter Tryd.func27, Tryd.ntmps27
  go_wp2
  clear hnil
  go_loop [6, 20] (fun r i => ∃ k : Nat, k ≤ len ∧ i = .int .i64 k) (fun _ i => len - (intOf i).toNat)
  case atStart => exact ⟨0, Nat.zero_le _, rfl⟩
  case round =>
    obtain ⟨k, hk, rfl⟩ := hrel
    by_cases hlt : k < len
    · obtain ⟨b, off, hbo, hcell⟩ := hS k hlt
      simp only [Option.some.injEq, Addr.mk.injEq, and_true] at hbo
      obtain ⟨rfl, rfl⟩ := hbo
      have hn := hN k hlt
      go_wp2_with fail
      go_round
      case rel => exact ⟨k + 1, by omega, by go_num⟩
      case measure => simp [intOf]; omega
    · go_wp2
      go_ret
      exact ⟨rfl, rfl⟩

set_option maxHeartbeats 400000 in
theorem names_nil (w : World) :
    Calls Tryd.prog 27 #[.string dpKey, .slice none 0 0, .bool true] w fun e w' =>
      ∃ N, e = .returned (.iface 47 (.pointer (some ⟨N, 0, none⟩))) ∧ w'.cell? ⟨N, 0, none⟩ = some (.string dpKey) ∧ w'.cell? ⟨N, 1, none⟩ = some (.string dpMissing) ∧ Below w.heap.size w w' := by
  have hnil := fun w => Lib.run_eql_slice_nil (P := Tryd.prog) w 22 9 none 0 0 0 0 Tryd.underlying22
  go_enter Tryd.func27, Tryd.ntmps27
  go_wp2
  go_ret
  exact ⟨w.heap.size, rfl, World.cell?_alloc_new _ _ _ _, World.cell?_alloc_new _ _ _ _, (Below.refl _ _).alloc (Nat.le_refl _) _⟩

theorem results_tmp4 {fn : Func} {t u v x : Tmp} (h : fn.results = #[.tmp t, .tmp u, .tmp v, .tmp x]) (tmps : Array Value) (P : Program) (w : World) :
    (results fn tmps).run P w = .ok (.tuple #[tmps.getD t undef, tmps.getD u undef, tmps.getD v undef, tmps.getD x undef]) w := by
  simp [results, h]

set_option maxHeartbeats 400000 in
theorem unpack_nil (w : World) :
    Calls Tryd.prog 19 #[.nilIface] w fun e w' => e = .returned (.tuple #[.bool false, .bool false, .string ⟨#[]⟩, .string ⟨#[]⟩]) ∧ w' = w := by
  go_enter Tryd.func19, Tryd.ntmps19
  go_wp2
  (try simp only [Exit.inBlock, Exit.then])
  refine bodyPost_ret (results_tmp4 rfl _ _ _) rfl ?_
  exact ⟨rfl, rfl⟩

theorem assert47 (v : Value) (w : World) : (Instr.typeAssert (.iface 47 v) 43 47 true).run Tryd.prog w = .ok (.tuple #[v, .bool true]) w := by kernel_rfl

set_option maxHeartbeats 400000 in
theorem unpack_err (N : Nat) (k r : ByteArray) (w : World) (h0 : w.cell? ⟨N, 0, none⟩ = some (.string k)) (h1 : w.cell? ⟨N, 1, none⟩ = some (.string r)) :
    Calls Tryd.prog 19 #[.iface 47 (.pointer (some ⟨N, 0, none⟩))] w fun e w' => e = .returned (.tuple #[.bool true, .bool true, .string k, .string r]) ∧ Below w.heap.size w w' := by
  have has := assert47 (.pointer (some ⟨N, 0, none⟩))
  go_enter Tryd.func19, Tryd.ntmps19
  go_wp2
  go_quiet (fail)
  go_wp2
  (try simp only [Exit.inBlock, Exit.then])
  refine bodyPost_ret (results_tmp4 rfl _ _ _) rfl ?_
  exact ⟨rfl, below_drewN (Below.refl _ _) _⟩
end Go.Proofs.Qxb6613651aDoor

import Derived.Test.Qxb6614313aRows
import Derived.WalkKit
import Derived.WalkSpells
import Derived.WalkLawsBesides
import Derived.Deep.QuietTactic
import Derived.BigQuiet
import Derived.Laws.Pointers
import Derived.StillTailTactics
namespace Go.Proofs.Qxb6614313a
open Go.RowKit

theorem wrap_u {a : Nat} (h : a < 1073741824) : IntKind.u64.wrap (a : Int) = (a : Int) := by
  rw [IntKind.wrap_u64]; omega
theorem vec_of {a : Nat} (h : a < 18446744073709551616) : (BitVec.ofInt 64 (a : Int)).toNat = a := by
  rw [BitVec.ofInt_natCast, BitVec.toNat_ofNat]; exact Nat.mod_eq_of_lt h
theorem and_u {a b : Nat} (ha : a < 1073741824) (hb : b < 18446744073709551616) : bits .and .u64 (a : Int) (b : Int) = ((a &&& b : Nat) : Int) := by
  have hx : a &&& b ≤ a := Nat.and_le_left
  show IntKind.u64.wrap ((BitVec.ofInt 64 (a : Int) &&& BitVec.ofInt 64 (b : Int)).toNat : Int) = _
  rw [BitVec.toNat_and, vec_of (by omega), vec_of hb]
  exact wrap_u (by omega)
theorem wall_and {u : Int} (h0 : 0 ≤ u) (h : u < 1000000000) : bits .and .u64 u 9223372036854775808 = 0 := by
  obtain ⟨n, rfl⟩ := Int.eq_ofNat_of_zero_le h0
  have hn : n < 1073741824 := by omega
  have e := and_u (b := 9223372036854775808) hn (by omega)
  have e2 : n &&& 9223372036854775808 = 0 := by
    show n &&& 2 ^ 63 = 0
    apply Nat.eq_of_testBit_eq
    intro i
    rw [Nat.testBit_and, Nat.testBit_two_pow, Nat.zero_testBit]
    by_cases hi : 63 = i
    · subst hi; rw [Nat.testBit_lt_two_pow (by omega)]; rfl
    · simp [hi]
  rw [e2] at e
  exact e
theorem wall_low {u : Int} (h0 : 0 ≤ u) (h : u < 1000000000) : bits .and .u64 u 1073741823 = u := by
  obtain ⟨n, rfl⟩ := Int.eq_ofNat_of_zero_le h0
  have hn : n < 1073741824 := by omega
  have e := and_u (b := 1073741823) hn (by omega)
  have e2 : n &&& 1073741823 = n := by
    have h3 := Nat.and_two_pow_sub_one_eq_mod n 30
    rw [Nat.mod_eq_of_lt (by omega)] at h3
    exact h3
  rw [e2] at e
  exact e
theorem or_zero {u : Int} (h0 : 0 ≤ u) (h : u < 1000000000) : bits .or .u64 0 u = u := by
  obtain ⟨n, rfl⟩ := Int.eq_ofNat_of_zero_le h0
  show IntKind.u64.wrap ((BitVec.ofInt 64 0 ||| BitVec.ofInt 64 (n : Int)).toNat : Int) = _
  rw [BitVec.toNat_or, vec_of (by omega), show (BitVec.ofInt 64 0).toNat = 0 by decide, Nat.zero_or]
  exact wrap_u (by omega)

set_option maxHeartbeats 800000 in
theorem nsec34 (b o : Nat) (u : Int) (w : World) (h0 : 0 ≤ u) (hu : u < 1000000000) (hc : w.cell? ⟨b, o, none⟩ = some (.int .u64 u)) :
    Calls Try.prog 34 #[.pointer (some ⟨b, o, none⟩)] w fun e w' => e = .returned (.int .i32 u) ∧ w' = w := by
  have h1 := wall_low h0 hu
  go_enter Try.func34, Try.ntmps34
  go_wp2
  go_ret
  exact ⟨rfl, rfl⟩

set_option maxHeartbeats 800000 in
theorem sec33 (b o : Nat) (u s : Int) (w : World) (h0 : 0 ≤ u) (hu : u < 1000000000) (hc : w.cell? ⟨b, o, none⟩ = some (.int .u64 u)) (hs : w.cell? ⟨b, o + 1, none⟩ = some (.int .i64 s)) :
    Calls Try.prog 33 #[.pointer (some ⟨b, o, none⟩)] w fun e w' => e = .returned (.int .i64 s) ∧ w' = w := by
  have h1 := wall_and h0 hu
  go_enter Try.func33, Try.ntmps33
  go_wp2
  go_ret
  exact ⟨rfl, rfl⟩

set_option maxHeartbeats 800000 in
theorem addSec36 (b : Nat) (u s : Int) (w : World) (h0 : 0 ≤ u) (hu : u < 1000000000) (hs : IntKind.i64.wrap s = s) (hc : w.cell? ⟨b, 0, none⟩ = some (.int .u64 u)) (hz : w.cell? ⟨b, 1, none⟩ = some (.int .i64 0)) (hf : w.frozen? ⟨b, 1, none⟩ = false) :
    Calls Try.prog 36 #[.pointer (some ⟨b, 0, none⟩), .int .i64 s] w fun e w' => e = .returned (.tuple #[]) ∧ w' = w.setCell ⟨b, 1, none⟩ (.int .i64 s) := by
  have h1 := wall_and h0 hu
  go_enter Try.func36, Try.ntmps36
  go_wp2
  go_end0
  exact ⟨rfl, rfl⟩

/-- A moment: its nanoseconds, its seconds, no place; as a value, and as an object of its own. -/
abbrev tm (u s : Int) : Value := .agg #[.int .u64 u, .int .i64 s, .pointer none]
abbrev tmO (u s : Int) : Obj := .cells #[.int .u64 u, .int .i64 s, .pointer none] 43
theorem results_cell1 {fn : Func} {p : Tmp} {ty : TypeId} (h : fn.results = #[.cell p ty]) (tmps : Array Value) (P : Program) (w : World) :
    (results fn tmps).run P w = ((asAddr (tmps.getD p undef)).run P w).andThen fun a w₁ => (loadVar ty a).run P w₁ := by
  simp only [results, h]
  simp [Sem.run_bind, Result.andThen]

set_option maxHeartbeats 800000 in
theorem add_pos (v s u : Int) (w : World) (h0 : 0 ≤ u) (hu : u < 1000000000) (hs : IntKind.i64.wrap s = s) (h1 : v.tdiv 1000000000 = s) (h2 : v.tmod 1000000000 = u) :
    Calls Try.prog 28 #[.agg #[.int .u64 0, .int .i64 0, .pointer none], .int .i64 v] w fun e w' => e = .returned (tm u s) ∧ w' = (w.alloc (tmO u s)).alloc (tmO u s) := by
  have h3 := wall_and h0 hu
  have h4 := wall_low h0 hu
  have h5 := or_zero h0 hu
  have h6 : bits .andNot .u64 0 1073741823 = 0 := by kernel_rfl
  go_enter Try.func28, Try.ntmps28
  go_wp2_with fail
  refine (nsec34 w.heap.size 0 0 _ (by omega) (by omega) (by go_simp)).mono ?_
  rintro e w' ⟨rfl, rfl⟩
  go_wp2_with fail
  refine (addSec36 w.heap.size u s _ h0 hu hs (by go_simp) (by go_simp) (by go_simp)).mono ?_
  rintro e w' ⟨rfl, rfl⟩
  go_wp2_with fail
  (try simp only [Exit.inBlock, Exit.then]); refine bodyPost_ret (v := .agg #[.int .u64 u, .int .i64 s, .pointer none]) ((results_cell1 rfl _ _ _).trans ?_) rfl ?_
  · go_simp
  · exact ⟨rfl, rfl⟩

set_option maxHeartbeats 800000 in
theorem add_neg (v s u : Int) (w : World) (h0 : 0 ≤ u) (hu : u < 1000000000) (r d : Int) (hr : r + 1000000000 = u) (hr0 : r < 0) (hs : IntKind.i64.wrap s = s) (hd : d - 1 = s) (hd1 : -9300000000 ≤ d) (hd2 : d ≤ 9300000000) (h1 : v.tdiv 1000000000 = d) (h2 : v.tmod 1000000000 = r) :
    Calls Try.prog 28 #[.agg #[.int .u64 0, .int .i64 0, .pointer none], .int .i64 v] w fun e w' => e = .returned (tm u s) ∧ w' = (w.alloc (tmO u s)).alloc (tmO u s) := by
  have h3 := wall_and h0 hu
  have h4 := wall_low h0 hu
  have h5 := or_zero h0 hu
  have h6 : bits .andNot .u64 0 1073741823 = 0 := by kernel_rfl
  go_enter Try.func28, Try.ntmps28
  go_wp2_with fail
  refine (nsec34 w.heap.size 0 0 _ (by omega) (by omega) (by go_simp)).mono ?_
  rintro e w' ⟨rfl, rfl⟩
  go_wp2_with fail
  refine (addSec36 w.heap.size u s _ h0 hu hs (by go_simp) (by go_simp) (by go_simp)).mono ?_
  rintro e w' ⟨rfl, rfl⟩
  go_wp2_with fail
  (try simp only [Exit.inBlock, Exit.then]); refine bodyPost_ret (v := .agg #[.int .u64 u, .int .i64 s, .pointer none]) ((results_cell1 rfl _ _ _).trans ?_) rfl ?_
  · go_simp
  · exact ⟨rfl, rfl⟩

/-- The seconds and the nanoseconds of a moment. -/
def secs (v : Int) : Int := v / 1000000000
def nsecs (v : Int) : Int := v % 1000000000
theorem nsecs_lo (v : Int) : 0 ≤ nsecs v := by unfold nsecs; omega
theorem nsecs_hi (v : Int) : nsecs v < 1000000000 := by unfold nsecs; omega
theorem secs_lt {x y : Int} (h : secs x < secs y) : x < y := by unfold secs at h; omega
theorem secs_eq {x y : Int} (h : secs x = secs y) : nsecs x < nsecs y ↔ x < y := by unfold secs at h; unfold nsecs; omega
def InI (v : Int) : Prop := -9223372036854775808 ≤ v ∧ v ≤ 9223372036854775807
theorem secs_wrap {v : Int} (h : InI v) : IntKind.i64.wrap (secs v) = secs v := by
  obtain ⟨h1, h2⟩ := h
  rw [IntKind.wrap_i64]; unfold secs; omega

theorem tdiv_tmod (v : Int) (h : InI v) : (v.tmod 1000000000 < 0 ∧ v.tmod 1000000000 + 1000000000 = nsecs v ∧ v.tdiv 1000000000 - 1 = secs v ∧ -9300000000 ≤ v.tdiv 1000000000 ∧ v.tdiv 1000000000 ≤ 9300000000) ∨ (v.tdiv 1000000000 = secs v ∧ v.tmod 1000000000 = nsecs v) := by
  obtain ⟨h1, h2⟩ := h
  unfold nsecs secs
  obtain ⟨n, rfl | rfl⟩ := Int.eq_nat_or_neg v
  · have e1 : ((n : Int).tdiv 1000000000) = ((n / 1000000000 : Nat) : Int) := rfl
    have e2 : ((n : Int).tmod 1000000000) = ((n % 1000000000 : Nat) : Int) := rfl
    rw [e1, e2]
    omega
  · rw [Int.neg_tdiv, Int.neg_tmod]
    have e1 : ((n : Int).tdiv 1000000000) = ((n / 1000000000 : Nat) : Int) := rfl
    have e2 : ((n : Int).tmod 1000000000) = ((n % 1000000000 : Nat) : Int) := rfl
    rw [e1, e2]
    omega

theorem add28 (v : Int) (w : World) (h : InI v) :
    Calls Try.prog 28 #[.agg #[.int .u64 0, .int .i64 0, .pointer none], .int .i64 v] w fun e w' => e = .returned (tm (nsecs v) (secs v)) ∧ w' = (w.alloc (tmO (nsecs v) (secs v))).alloc (tmO (nsecs v) (secs v)) := by
  have hw := secs_wrap h
  rcases tdiv_tmod v h with ⟨a1, a2, a3, a4, a5⟩ | ⟨a1, a2⟩
  · exact add_neg v (secs v) (nsecs v) w (nsecs_lo v) (nsecs_hi v) (v.tmod 1000000000) (v.tdiv 1000000000) a2 a1 hw a3 a4 a5 rfl rfl
  · exact add_pos v (secs v) (nsecs v) w (nsecs_lo v) (nsecs_hi v) hw a1 a2

set_option maxHeartbeats 800000 in
theorem at16 (v : Int) (w : World) (h : InI v) :
    Calls Try.prog 16 #[.int .i64 v] w fun e w' => e = .returned (tm (nsecs v) (secs v)) ∧ w' = ((w.alloc (tmO (nsecs v) (secs v))).alloc (tmO (nsecs v) (secs v))).alloc (tmO (nsecs v) (secs v)) := by
  have H : Hid _ := add28 v (w.alloc (tmO 0 0)) h
  generalize secs v = s at H ⊢
  generalize nsecs v = u at H ⊢
  go_enter Try.func16, Try.ntmps16
  go_wp2_with fail
  refine Calls.mono H.out ?_
  rintro e w' ⟨rfl, rfl⟩
  go_wp2_with fail
  (try simp only [Exit.inBlock, Exit.then]); refine bodyPost_ret (v := tm u s) ((results_cell1 rfl _ _ _).trans ?_) rfl ?_
  · go_simp
  · exact ⟨rfl, rfl⟩

/-- The client that lies at V is due v nanoseconds after the zero time. -/
structure IsClient (w : World) (V : Nat) (v : Int) : Prop where
  u : w.cell? ⟨V, 8, none⟩ = some (.int .u64 (nsecs v))
  s : w.cell? ⟨V, 9, none⟩ = some (.int .i64 (secs v))
  l : w.cell? ⟨V, 10, none⟩ = some (.pointer none)
theorem isClient_below {w w' : World} {V : Nat} {v : Int} (h : IsClient w V v) (hb : Below w.heap.size w w') : IsClient w' V v :=
  ⟨cell_later hb h.u, cell_later hb h.s, cell_later hb h.l⟩

set_option maxHeartbeats 800000 in
theorem client22 (v : Int) (w : World) (h : InI v) :
    Calls Try.prog 22 #[.int .i64 v] w fun e w' => ∃ V, e = .returned (.pointer (some ⟨V, 0, none⟩)) ∧ IsClient w' V v ∧ w.heap.size ≤ V ∧ Below w.heap.size w w' := by
  have H : Hid _ := at16 v w h
  have K : ∀ w', IsClient w' (w.heap.size + 1 + 1 + 1) v ↔ w'.cell? ⟨w.heap.size + 1 + 1 + 1, 8, none⟩ = some (.int .u64 (nsecs v)) ∧ w'.cell? ⟨w.heap.size + 1 + 1 + 1, 9, none⟩ = some (.int .i64 (secs v)) ∧ w'.cell? ⟨w.heap.size + 1 + 1 + 1, 10, none⟩ = some (.pointer none) := fun w' => ⟨fun h => ⟨h.u, h.s, h.l⟩, fun h => ⟨h.1, h.2.1, h.2.2⟩⟩
  generalize secs v = s at H K
  generalize nsecs v = u at H K
  have K' : Hid _ := K
  clear K
  go_enter Try.func22, Try.ntmps22
  go_wp2_with fail
  refine Calls.mono H.out ?_
  rintro e w' ⟨rfl, rfl⟩
  go_wp2_with fail
  go_ret
  refine ⟨_, rfl, (K'.out _).2 ⟨?_, ?_, ?_⟩, by omega, ((((Below.refl _ _).alloc (Nat.le_refl _) _).alloc (by simp) _).alloc (by simp; omega) _).alloc (by simp; omega) _⟩
  · go_simp
  · go_simp
  · go_simp

theorem both_and {u1 u2 : Int} (l1 : 0 ≤ u1) (h1 : u1 < 1000000000) (l2 : 0 ≤ u2) (h2 : u2 < 1000000000) : bits .and .u64 (bits .and .u64 u1 u2) 9223372036854775808 = 0 := by
  obtain ⟨n, rfl⟩ := Int.eq_ofNat_of_zero_le l1
  obtain ⟨m, rfl⟩ := Int.eq_ofNat_of_zero_le l2
  rw [and_u (by omega) (by omega)]
  have hx : n &&& m ≤ n := Nat.and_le_left
  exact wall_and (by omega) (by omega)

set_option maxHeartbeats 800000 in
theorem before23 (u1 s1 u2 s2 : Int) (b : Bool) (w : World) (l1 : 0 ≤ u1) (h1 : u1 < 1000000000) (l2 : 0 ≤ u2) (h2 : u2 < 1000000000) (hb : (s1 < s2 ∧ b = true) ∨ (s1 = s2 ∧ b = decide (u1 < u2)) ∨ (s2 < s1 ∧ b = false)) :
    Calls Try.prog 23 #[tm u1 s1, tm u2 s2] w fun e w' => e = .returned (.bool b) ∧ w' = (w.alloc (tmO u1 s1)).alloc (tmO u2 s2) := by
  have ha := both_and l1 h1 l2 h2
  rcases hb with ⟨hs, rfl⟩ | ⟨rfl, rfl⟩ | ⟨hs, rfl⟩
  · go_enter Try.func23, Try.ntmps23
    go_wp2_with fail
    refine (sec33 w.heap.size 0 u1 s1 _ l1 h1 (by go_simp) (by go_simp)).mono ?_
    rintro e w' ⟨rfl, rfl⟩
    go_wp2_with fail
    refine (sec33 (w.heap.size + 1) 0 u2 s2 _ l2 h2 (by go_simp) (by go_simp)).mono ?_
    rintro e w' ⟨rfl, rfl⟩
    go_wp2_with fail
    go_ret
    exact ⟨rfl, rfl⟩
  · go_enter Try.func23, Try.ntmps23
    go_wp2_with fail
    refine (sec33 w.heap.size 0 u1 s1 _ l1 h1 (by go_simp) (by go_simp)).mono ?_
    rintro e w' ⟨rfl, rfl⟩
    go_wp2_with fail
    refine (sec33 (w.heap.size + 1) 0 u2 s1 _ l2 h2 (by go_simp) (by go_simp)).mono ?_
    rintro e w' ⟨rfl, rfl⟩
    go_wp2_with fail
    refine (nsec34 w.heap.size 0 u1 _ l1 h1 (by go_simp)).mono ?_
    rintro e w' ⟨rfl, rfl⟩
    go_wp2_with fail
    refine (nsec34 (w.heap.size + 1) 0 u2 _ l2 h2 (by go_simp)).mono ?_
    rintro e w' ⟨rfl, rfl⟩
    go_wp2_with fail
    go_ret
    exact ⟨rfl, rfl⟩
  · have hne : (s1 == s2) = false := by simp; omega
    have hd : decide (s1 < s2) = false := by simp; omega
    go_enter Try.func23, Try.ntmps23
    go_wp2_with fail
    refine (sec33 w.heap.size 0 u1 s1 _ l1 h1 (by go_simp) (by go_simp)).mono ?_
    rintro e w' ⟨rfl, rfl⟩
    go_wp2_with fail
    refine (sec33 (w.heap.size + 1) 0 u2 s2 _ l2 h2 (by go_simp) (by go_simp)).mono ?_
    rintro e w' ⟨rfl, rfl⟩
    go_wp2_with fail
    go_ret
    exact ⟨by simp, rfl⟩

theorem before_moments (x y : Int) (w : World) :
    Calls Try.prog 23 #[tm (nsecs x) (secs x), tm (nsecs y) (secs y)] w fun e w' => e = .returned (.bool (decide (x < y))) ∧ Below w.heap.size w w' := by
  refine (before23 (nsecs x) (secs x) (nsecs y) (secs y) (decide (x < y)) w (nsecs_lo x) (nsecs_hi x) (nsecs_lo y) (nsecs_hi y) ?_).mono ?_
  · rcases Int.lt_trichotomy (secs x) (secs y) with h | h | h
    · exact .inl ⟨h, decide_eq_true (secs_lt h)⟩
    · exact .inr (.inl ⟨h, decide_eq_decide.2 (secs_eq h).symm⟩)
    · exact .inr (.inr ⟨h, decide_eq_false (by have := secs_lt h; omega)⟩)
  · rintro e w' ⟨rfl, rfl⟩
    exact ⟨rfl, ((Below.refl _ _).alloc (Nat.le_refl _) _).alloc (by simp) _⟩

set_option maxHeartbeats 800000 in
set_option maxRecDepth 100000 in
theorem less7 (g i j n c V1 V2 : Nat) (x y : Int) (w : World) (hi : i < n) (hj : j < n) (_hn : n ≤ 65536) (hc1 : w.cell? ⟨g, i, none⟩ = some (.pointer (some ⟨V1, 0, none⟩))) (hc2 : w.cell? ⟨g, j, none⟩ = some (.pointer (some ⟨V2, 0, none⟩))) (h1 : IsClient w V1 x) (h2 : IsClient w V2 y) :
    Calls Try.prog 7 #[.slice (some ⟨g, 0, none⟩) n c, .int .i64 i, .int .i64 j] w fun e w' => e = .returned (.bool (decide (x < y))) ∧ Below w.heap.size w w' := by
  have H : Hid _ := fun w' => before_moments x y w'
  obtain ⟨a1, a2, a3⟩ := h1
  obtain ⟨b1, b2, b3⟩ := h2
  generalize secs x = s1 at *
  generalize nsecs x = u1 at *
  generalize secs y = s2 at *
  generalize nsecs y = u2 at *
  go_enter Try.func7, Try.ntmps7
  go_wp2
  go_still_tail 14, (by kernel_rfl)
  go_wp2_with fail
  refine Calls.mono (H.out _) ?_
  rintro e w' ⟨rfl, hb⟩
  go_wp2_with fail
  go_ret
  exact ⟨rfl, ⟨hb.os, hb.tape, hb.output, hb.size, hb.block⟩⟩
end Go.Proofs.Qxb6614313a

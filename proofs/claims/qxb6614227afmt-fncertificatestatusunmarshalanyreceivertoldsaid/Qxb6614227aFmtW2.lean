import Derived.Test.Qxb6614227aFmtW1
import Derived.Deep.QuietTactic
import Derived.BigQuiet
import Derived.Deep.Light
import Derived.StillTactics
import Derived.Laws.Pointers
import Derived.Deep.RegionHeld3
import Derived.BigRegion
namespace Go.Proofs.Qxb6614227aFmt
open Go.RowKit Go.Extern.Stop Go.Stop Go.Extern

theorem lt_of_cell {w : World} {a : Addr} {v : Value} (h : w.cell? a = some v) : a.block < w.heap.size := by
  rcases Nat.lt_or_ge a.block w.heap.size with h' | h'
  · exact h'
  · simp [World.cell?, Array.getElem?_eq_none h'] at h

structure UOut (w w' : World) (M t : Nat) (r : Value) : Prop where
  c0 : w'.cell? ⟨M, 0, none⟩ = some (.int .u8 t)
  c1 : w'.cell? ⟨M, 1, none⟩ = some r
  grown : w.grownBy w' (some M)
structure UIn (w : World) (M : Nat) : Prop where
  c0 : w.cell? ⟨M, 0, none⟩ = some (.int .u8 0)
  c1 : w.cell? ⟨M, 1, none⟩ = some (.slice none 0 0)
  f0 : w.frozen? ⟨M, 0, none⟩ = false
  f1 : w.frozen? ⟨M, 1, none⟩ = false
structure UBad (w : World) (e : Ending) (w' : World) (M t V : Nat) (d : ByteArray) : Prop where
  ret : e = .returned (.pointer (some ⟨V, 0, none⟩))
  new : w.heap.size ≤ V
  det : w'.cell? ⟨V, 1, none⟩ = some (.string d)
  froz : w'.frozen? ⟨V, 1, none⟩ = false
  short : d.size ≤ 1000
  out : UOut w w' M t (.slice none 0 0)

theorem gb_refl (w : World) (r : Option Nat) : w.grownBy w r := ⟨rfl, rfl, rfl, Nat.le_refl _, fun _ _ _ => rfl⟩
theorem gb_alloc {w w1 : World} {r : Option Nat} (h : w.grownBy w1 r) (o : Obj) : w.grownBy (w1.alloc o) r :=
  ⟨h.os, h.tape, h.output, Nat.le_trans h.size (by simp), fun k hk hr => (Below.heap_alloc _ _ _ (Nat.lt_of_lt_of_le hk h.size)).trans (h.block k hk hr)⟩
theorem gb_set {w w1 : World} {M : Nat} (h : w.grownBy w1 (some M)) (j : Nat) (v : Value) : w.grownBy (w1.setCell ⟨M, j, none⟩ v) (some M) :=
  ⟨h.os, h.tape, h.output, Nat.le_trans h.size (by simp [World.setCell]), fun k hk hr => (Below.heap_setCell _ _ _ _ (by intro e; exact hr (by rw [e]))).trans (h.block k hk hr)⟩
theorem gb_setNew {w w1 : World} {r : Option Nat} {V : Nat} (h : w.grownBy w1 r) (hV : w.heap.size ≤ V) (j : Nat) (v : Value) : w.grownBy (w1.setCell ⟨V, j, none⟩ v) r :=
  ⟨h.os, h.tape, h.output, Nat.le_trans h.size (by simp [World.setCell]), fun k hk hr => (Below.heap_setCell _ _ _ _ (by intro e; simp at e; omega)).trans (h.block k hk hr)⟩
theorem gb_below {w w1 w2 : World} {r : Option Nat} (h : w.grownBy w1 r) (hb : Below w1.heap.size w1 w2) : w.grownBy w2 r :=
  ⟨hb.os.trans h.os, hb.tape.trans h.tape, hb.output.trans h.output, Nat.le_trans h.size hb.size, fun k hk hr => (hb.block k (Nat.lt_of_lt_of_le hk h.size)).trans (h.block k hk hr)⟩
theorem gb_drew {w w1 : World} {r : Option Nat} (h : w.grownBy w1 r) : w.grownBy w1.drew r := ⟨h.os, h.tape, h.output, h.size, h.block⟩
theorem gb_trans {w w1 w2 : World} {r : Option Nat} (h : w.grownBy w1 r) (k : w1.grownBy w2 r) : w.grownBy w2 r :=
  ⟨k.os.trans h.os, k.tape.trans h.tape, k.output.trans h.output, Nat.le_trans h.size k.size, fun i hi hr => (k.block i (Nat.lt_of_lt_of_le hi h.size) hr).trans (h.block i hi hr)⟩

theorem uout_one {w : World} {M x : Nat} (h : UIn w M) (o : Obj) : UOut w ((w.setCell ⟨M, 0, none⟩ (.int .u8 x)).alloc o) M x (.slice none 0 0) := by
  have hb := (Below.refl (w.setCell ⟨M, 0, none⟩ (.int .u8 x)).heap.size (w.setCell ⟨M, 0, none⟩ (.int .u8 x))).alloc (Nat.le_refl _) o
  refine ⟨cell_later hb (World.cell?_setCell_same _ _ _ h.c0), cell_later hb ?_, gb_alloc (gb_set (gb_refl _ _) _ _) _⟩
  rw [World.cell?_setCell_other _ _ _ _ (by simp)]; exact h.c1

set_option maxHeartbeats 800000 in
theorem un_ok1 (M g n x : Nat) (w : World) (hn : 1 ≤ n) (_hl : n ≤ 1048576) (hx : ((x : Int) != 1) = true) (hM : UIn w M) (hc : w.cell? ⟨g, 0, none⟩ = some (.int .u8 x)) :
    Calls Tryf.prog 18 #[.pointer (some ⟨M, 0, none⟩), .slice (some ⟨g, 0, none⟩) n n] w fun e w' => e = .returned (.pointer none) ∧ UOut w w' M x (.slice none 0 0) := by
  have hM0 := hM
  obtain ⟨m0, m1, f0, f1⟩ := hM
  have hgl : g < w.heap.size := lt_of_cell hc
  have hMl : M < w.heap.size := lt_of_cell m0
  go_enter Tryf.func18, Tryf.ntmps18
  go_wp2
  all_goals
    go_ret
    exact ⟨rfl, uout_one hM0 _⟩

set_option maxHeartbeats 800000 in
theorem con_no (C g off n N : Nat) (w : World) (_hl : n ≤ 1048576) (hN : N < 16777216) (hb : n < 3 + N) (hc : w.cell? ⟨C, 0, none⟩ = some (.slice (some ⟨g, off, none⟩) n n)) :
    Calls Tryf.prog 33 #[.pointer (some ⟨C, 0, none⟩), .int .i64 3, .int .i64 N] w fun e w' => e = .returned (.tuple #[.slice none 0 0, .bool false]) ∧ w' = w := by
  go_enter Tryf.func33, Tryf.ntmps33
  go_wp2
  go_ret2
  exact ⟨rfl, rfl⟩

set_option maxHeartbeats 800000 in
theorem con_yes (C g off n N : Nat) (w : World) (hl : n ≤ 1048576) (hN : N < 16777216) (hb : 3 + N ≤ n) (hc : w.cell? ⟨C, 0, none⟩ = some (.slice (some ⟨g, off, none⟩) n n)) (hf : w.frozen? ⟨C, 0, none⟩ = false) :
    Calls Tryf.prog 33 #[.pointer (some ⟨C, 0, none⟩), .int .i64 3, .int .i64 N] w fun e w' => ∃ r1 r2, e = .returned (.tuple #[.slice (some r1) N N, .bool true]) ∧
      w' = w.setCell ⟨C, 0, none⟩ (.slice (some r2) (n - (3 + N)) (n - (3 + N))) ∧ (N ≠ 0 → r1 = ⟨g, off + 3, none⟩) := by
  rcases Nat.eq_zero_or_pos N with h0 | h0
  · subst h0
    by_cases h3 : n = 3
    · subst h3
      go_enter Tryf.func33, Tryf.ntmps33
      go_wp2
      go_ret2
      exact ⟨_, _, rfl, rfl, fun h => absurd rfl h⟩
    · go_enter Tryf.func33, Tryf.ntmps33
      go_wp2
      go_ret2
      exact ⟨_, _, rfl, rfl, fun h => absurd rfl h⟩
  · by_cases h3 : n = 3 + N
    · subst h3
      go_enter Tryf.func33, Tryf.ntmps33
      go_wp2
      go_ret2
      refine ⟨⟨g, off + 3, none⟩, ⟨g, off, none⟩, ?_, by rw [Nat.sub_self], fun _ => rfl⟩
      show Ending.returned (.tuple #[.slice _ (3 + N - 3) (3 + N - 3), .bool true]) = _
      rw [Nat.add_sub_cancel_left]
    · go_enter Tryf.func33, Tryf.ntmps33
      go_wp2
      go_ret2
      refine ⟨⟨g, off + 3, none⟩, _, ?_, rfl, fun _ => rfl⟩
      show Ending.returned (.tuple #[.slice _ (3 + N - 3) (3 + N - 3), .bool true]) = _
      rw [Nat.add_sub_cancel_left]

/-- The number that three bytes spell. -/
def n24 (x y z : Nat) : Nat := (x * 65536 ||| y * 256) ||| z
theorem n24_lt {x y z : Nat} (hx : x ≤ 255) (hy : y ≤ 255) (hz : z ≤ 255) : n24 x y z < 16777216 := by
  have h1 : x * 65536 ||| y * 256 < 2 ^ 24 := Nat.or_lt_two_pow (by omega) (by omega)
  have h2 : n24 x y z < 2 ^ 24 := Nat.or_lt_two_pow h1 (by omega)
  omega
theorem wrap_small {a : Nat} (h : a < 16777216) : IntKind.i64.wrap (a : Int) = (a : Int) := by
  rw [IntKind.wrap_i64]; omega
theorem or_small {a b : Nat} (ha : a < 16777216) (hb : b < 16777216) : bits .or .i64 (a : Int) (b : Int) = ((a ||| b : Nat) : Int) := by
  have hx : a ||| b < 2 ^ 24 := Nat.or_lt_two_pow (by omega) (by omega)
  have h1 : (BitVec.ofInt 64 (a : Int)).toNat = a := by
    rw [BitVec.ofInt_natCast, BitVec.toNat_ofNat]; exact Nat.mod_eq_of_lt (by omega)
  have h2 : (BitVec.ofInt 64 (b : Int)).toNat = b := by
    rw [BitVec.ofInt_natCast, BitVec.toNat_ofNat]; exact Nat.mod_eq_of_lt (by omega)
  show IntKind.i64.wrap ((BitVec.ofInt 64 (a : Int) ||| BitVec.ofInt 64 (b : Int)).toNat : Int) = _
  rw [BitVec.toNat_or, h1, h2]
  exact wrap_small (by omega)
theorem n24_eq {x y z : Nat} (hx : x ≤ 255) (hy : y ≤ 255) (hz : z ≤ 255) :
    bits .or .i64 (bits .or .i64 (IntKind.i64.wrap (IntKind.i64.wrap (x : Int) * 65536)) (IntKind.i64.wrap (IntKind.i64.wrap (y : Int) * 256))) (IntKind.i64.wrap (z : Int)) = (n24 x y z : Int) := by
  have e1 : IntKind.i64.wrap (IntKind.i64.wrap (x : Int) * 65536) = ((x * 65536 : Nat) : Int) := by
    rw [wrap_small (by omega), show (x : Int) * 65536 = ((x * 65536 : Nat) : Int) by omega, wrap_small (by omega)]
  have e2 : IntKind.i64.wrap (IntKind.i64.wrap (y : Int) * 256) = ((y * 256 : Nat) : Int) := by
    rw [wrap_small (by omega), show (y : Int) * 256 = ((y * 256 : Nat) : Int) by omega, wrap_small (by omega)]
  have h1 : x * 65536 ||| y * 256 < 2 ^ 24 := Nat.or_lt_two_pow (by omega) (by omega)
  rw [e1, e2, wrap_small (by omega), or_small (by omega) (by omega), or_small (by omega) (by omega)]
  rfl

set_option maxHeartbeats 800000 in
theorem vec_no (C g off n x y z : Nat) (w : World) (h3 : 3 ≤ n) (hl : n ≤ 1048576) (hc : w.cell? ⟨C, 0, none⟩ = some (.slice (some ⟨g, off, none⟩) n n))
    (hx : w.cell? ⟨g, off, none⟩ = some (.int .u8 x)) (hy : w.cell? ⟨g, off + 1, none⟩ = some (.int .u8 y)) (hz : w.cell? ⟨g, off + 2, none⟩ = some (.int .u8 z)) (bx : x ≤ 255) (by_ : y ≤ 255) (bz : z ≤ 255) (hb : n < 3 + n24 x y z) :
    Calls Tryf.prog 26 #[.pointer (some ⟨C, 0, none⟩)] w fun e w' => e = .returned (.tuple #[.slice none 0 0, .bool false]) ∧ w' = w.drew := by
  have b1 : (1 : Int) < (n : Int) := by omega
  have b2 : (2 : Int) < (n : Int) := by omega
  have b0 : 0 < n := by omega
  have hlt := n24_lt bx by_ bz
  have HE : Hid _ := n24_eq bx by_ bz
  go_enter Tryf.func26, Tryf.ntmps26
  go_wp2
  go_region_held3 (fun w' => w'.cell? ⟨C, 0, none⟩ = some (.slice (some ⟨g, off, none⟩) n n) ∧ w'.cell? ⟨g, off, none⟩ = some (.int .u8 x) ∧ w'.cell? ⟨g, off + 1, none⟩ = some (.int .u8 y) ∧ w'.cell? ⟨g, off + 2, none⟩ = some (.int .u8 z)) (simp [go_sem, hc, hx, hy, hz])
    ((go_at_call 33; rw [HE.out]; refine (con_no C g off n (n24 x y z) _ hl hlt hb (by simpa [go_sem] using hc)).mono ?_; rintro e w' ⟨rfl, rfl⟩))
  go_wp2
  go_ret2
  exact ⟨rfl, rfl⟩

end Go.Proofs.Qxb6614227aFmt

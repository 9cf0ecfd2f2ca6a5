import Derived.Test.Qxb6614227aFmtW3
namespace Go.Proofs.Qxb6614227aFmt
open Go.RowKit Go.Extern.Stop Go.Stop Go.Extern

theorem ubad_of {w w1 w' : World} {e : Ending} {M t V : Nat} {d : ByteArray} (h : UOut w w1 M t (.slice none 0 0)) (hv : IsViol w1 e w' V d) : UBad w e w' M t V d :=
  ⟨hv.ret, Nat.le_trans h.grown.size hv.new, hv.det, hv.froz, hv.short, cell_later hv.bel h.c0, cell_later hv.bel h.c1, gb_below h.grown hv.bel⟩
theorem viol_of {w w1 w' : World} {e : Ending} {V : Nat} {d : ByteArray} (h : Below w.heap.size w w1) (hv : IsViol w1 e w' V d) : IsViol w e w' V d :=
  ⟨hv.ret, Nat.le_trans h.size hv.new, hv.det, hv.froz, hv.short, h.trans (hv.bel.mono h.size)⟩

set_option maxHeartbeats 800000 in
theorem unended34_no (a : Option Addr) (n cap : Nat) (w : World) :
    Calls Tryf.prog 34 #[.slice a n cap, .string fieldT, .bool false] w fun e w' => ∃ V d, IsViol w e w' V d := by
  go_enter Tryf.func34, Tryf.ntmps34
  go_wp2_with fail
  refine (cut25 fieldT w (by decide)).mono ?_
  rintro e w' ⟨V, d, hv⟩
  obtain rfl := hv.ret
  go_wp2_with fail
  go_ret
  exact ⟨V, d, rfl, hv.new, hv.det, hv.froz, hv.short, hv.bel⟩

set_option maxHeartbeats 800000 in
theorem end27_no (a : Option Addr) (n cap : Nat) (w : World) :
    Calls Tryf.prog 27 #[.slice a n cap, .string fieldT, .bool false] w fun e w' => ∃ V d, IsViol w e w' V d := by
  go_enter Tryf.func27, Tryf.ntmps27
  go_wp2_with fail
  refine (unended34_no a n cap _).mono ?_
  rintro e w' ⟨V, d, hv⟩
  obtain rfl := hv.ret
  go_wp2_with fail
  go_ret
  exact ⟨V, d, viol_of ((Below.refl _ _).alloc (Nat.le_refl _) _) hv⟩

set_option maxHeartbeats 800000 in
theorem end27_left (F : Interp) (a : Option Addr) (n cap : Nat) (w : World) (h0 : 0 < n) (hn : n ≤ 1048576) (hF : F.told.answers w.tape) :
    Calls Tryf.prog 27 #[.slice a n cap, .string fieldT, .bool true] w fun e w' => ∃ V d, IsViol w e w' V d := by
  have HF : Hid _ := hF
  clear hF
  go_enter Tryf.func27, Tryf.ntmps27
  go_wp2_with (go_at_call 28; go_in)
  refine (unended34 F a n cap (w.alloc (.cells #[.slice a n cap] 51)) hn (by exact HF.out)).mono ?_
  rintro e w' ⟨V, d, hv⟩
  obtain rfl := hv.ret
  go_wp2_with fail
  go_ret
  exact ⟨V, d, viol_of ((Below.refl _ _).alloc (Nat.le_refl _) _) hv⟩

set_option maxHeartbeats 800000 in
theorem end27_ok (a : Option Addr) (k cap : Nat) (w : World) (hk : k = 0) :
    Calls Tryf.prog 27 #[.slice a k cap, .string fieldT, .bool true] w fun e w' => e = .returned (.pointer none) ∧ w' = w.alloc (.cells #[.slice a k cap] 51) := by
  subst hk
  go_enter Tryf.func27, Tryf.ntmps27
  go_wp2
  go_ret
  exact ⟨rfl, rfl⟩

/-- A cell that was and a write elsewhere. -/
theorem uout_set {w : World} {M x : Nat} (h : UIn w M) : UOut w (w.setCell ⟨M, 0, none⟩ (.int .u8 x)) M x (.slice none 0 0) := by
  refine ⟨World.cell?_setCell_same _ _ _ h.c0, ?_, gb_set (gb_refl _ _) _ _⟩
  rw [World.cell?_setCell_other _ _ _ _ (by simp)]; exact h.c1
theorem uout_later {w w1 w2 : World} {M x : Nat} {r : Value} (h : UOut w w1 M x r) (hb : Below w1.heap.size w1 w2) : UOut w w2 M x r :=
  ⟨cell_later hb h.c0, cell_later hb h.c1, gb_below h.grown hb⟩

set_option maxHeartbeats 800000 in
theorem u8_no (C : Nat) (a : Option Addr) (w : World) (hc : w.cell? ⟨C, 0, none⟩ = some (.slice a 0 0)) :
    Calls Tryf.prog 24 #[.pointer (some ⟨C, 0, none⟩)] w fun e w' => e = .returned (.tuple #[.int .u8 0, .bool false]) ∧ w' = w := by
  go_enter Tryf.func24, Tryf.ntmps24
  go_wp2
  go_ret2
  exact ⟨rfl, rfl⟩
set_option maxHeartbeats 800000 in
theorem u8_last (C g off x : Nat) (w : World) (hc : w.cell? ⟨C, 0, none⟩ = some (.slice (some ⟨g, off, none⟩) 1 1)) (hf : w.frozen? ⟨C, 0, none⟩ = false) (hx : w.cell? ⟨g, off, none⟩ = some (.int .u8 x)) (hgC : g ≠ C) :
    Calls Tryf.prog 24 #[.pointer (some ⟨C, 0, none⟩)] w fun e w' => e = .returned (.tuple #[.int .u8 x, .bool true]) ∧ w' = w.setCell ⟨C, 0, none⟩ (.slice (some ⟨g, off, none⟩) 0 0) := by
  go_enter Tryf.func24, Tryf.ntmps24
  go_wp2
  go_ret2
  exact ⟨rfl, rfl⟩
set_option maxHeartbeats 800000 in
theorem u8_yes (C g off n x : Nat) (w : World) (hn : 2 ≤ n) (hl : n ≤ 1048576) (hc : w.cell? ⟨C, 0, none⟩ = some (.slice (some ⟨g, off, none⟩) n n)) (hf : w.frozen? ⟨C, 0, none⟩ = false) (hx : w.cell? ⟨g, off, none⟩ = some (.int .u8 x)) (hgC : g ≠ C) :
    Calls Tryf.prog 24 #[.pointer (some ⟨C, 0, none⟩)] w fun e w' => e = .returned (.tuple #[.int .u8 x, .bool true]) ∧ w' = w.setCell ⟨C, 0, none⟩ (.slice (some ⟨g, off + 1, none⟩) (n - 1) (n - 1)) := by
  go_enter Tryf.func24, Tryf.ntmps24
  go_wp2
  go_ret2
  exact ⟨rfl, rfl⟩

set_option maxHeartbeats 800000 in
theorem un_bad0 (M : Nat) (a : Option Addr) (w : World) (hM : UIn w M) :
    Calls Tryf.prog 18 #[.pointer (some ⟨M, 0, none⟩), .slice a 0 0] w fun e w' => ∃ V d, UBad w e w' M 0 V d := by
  have hM0 := hM
  obtain ⟨m0, m1, f0, f1⟩ := hM
  have hMl : M < w.heap.size := lt_of_cell m0
  go_enter Tryf.func18, Tryf.ntmps18
  go_wp2_with fail
  refine (u8_no w.heap.size a _ (by go_simp)).mono ?_
  rintro e w' ⟨rfl, rfl⟩
  go_wp2_with fail
  refine (cut25 _ _ (by decide)).mono ?_
  rintro e w' ⟨V, d, hv⟩
  obtain rfl := hv.ret
  go_wp2_with fail
  go_ret
  exact ⟨V, d, ubad_of (uout_one hM0 _) hv⟩
end Go.Proofs.Qxb6614227aFmt

import Derived.Test.Qxb6614227aFmtW4
namespace Go.Proofs.Qxb6614227aFmt
open Go.RowKit Go.Extern.Stop Go.Stop Go.Extern

set_option maxHeartbeats 800000 in
theorem vec_short (C n c : Nat) (a : Option Addr) (w : World) (h3 : n < 3) (hc : w.cell? ⟨C, 0, none⟩ = some (.slice a n c)) :
    Calls Tryf.prog 26 #[.pointer (some ⟨C, 0, none⟩)] w fun e w' => e = .returned (.tuple #[.slice none 0 0, .bool false]) ∧ w' = w := by
  go_enter Tryf.func26, Tryf.ntmps26
  go_wp2_with fail
  go_ret2
  exact ⟨rfl, rfl⟩

theorem uout_two {w : World} {M x : Nat} (h : UIn w M) (o o2 : Obj) : UOut w (((w.setCell ⟨M, 0, none⟩ (.int .u8 x)).alloc o).alloc o2) M x (.slice none 0 0) :=
  uout_later (uout_one h o) ((Below.refl _ _).alloc (Nat.le_refl _) _)

theorem uout_both {w : World} {M x : Nat} (h : UIn w M) (r : Value) : UOut w ((w.setCell ⟨M, 0, none⟩ (.int .u8 x)).setCell ⟨M, 1, none⟩ r) M x r := by
  have h1 := uout_set (x := x) h
  refine ⟨?_, World.cell?_setCell_same _ _ _ h1.c1, gb_set h1.grown _ _⟩
  rw [World.cell?_setCell_other _ _ _ _ (by simp)]; exact h1.c0
theorem uout_drew {w w1 : World} {M x : Nat} {r : Value} (h : UOut w w1 M x r) : UOut w w1.drew M x r := ⟨h.c0, h.c1, gb_drew h.grown⟩

set_option maxHeartbeats 800000 in
theorem un_bad2 (M g n : Nat) (w : World) (h1 : 2 ≤ n) (h4 : n < 4) (hM : UIn w M) (hc : w.cell? ⟨g, 0, none⟩ = some (.int .u8 1)) :
    Calls Tryf.prog 18 #[.pointer (some ⟨M, 0, none⟩), .slice (some ⟨g, 0, none⟩) n n] w fun e w' => ∃ V d, UBad w e w' M 1 V d := by
  have hM0 := hM
  obtain ⟨m0, m1, f0, f1⟩ := hM
  have hgl : g < w.heap.size := lt_of_cell hc
  have hMl : M < w.heap.size := lt_of_cell m0
  have hgC : g ≠ w.heap.size := Nat.ne_of_lt hgl
  go_enter Tryf.func18, Tryf.ntmps18
  go_wp2_with fail
  refine (u8_yes w.heap.size g 0 n 1 _ h1 (by omega) (by go_simp) (by go_simp) (by go_simp) hgC).mono ?_
  rintro e w' ⟨rfl, rfl⟩
  go_wp2_with fail
  refine (vec_short w.heap.size (n - 1) (n - 1) (some ⟨g, 1, none⟩) _ (by omega) (by go_simp)).mono ?_
  rintro e w' ⟨rfl, rfl⟩
  go_wp2_with fail
  refine (end27_no _ _ _ _).mono ?_
  rintro e w' ⟨V, d, hv⟩
  obtain rfl := hv.ret
  go_wp2_with fail
  go_ret
  exact ⟨V, d, ubad_of (uout_two hM0 _ _) hv⟩

set_option maxHeartbeats 800000 in
theorem un_bad1 (M g : Nat) (w : World) (hM : UIn w M) (hc : w.cell? ⟨g, 0, none⟩ = some (.int .u8 1)) :
    Calls Tryf.prog 18 #[.pointer (some ⟨M, 0, none⟩), .slice (some ⟨g, 0, none⟩) 1 1] w fun e w' => ∃ V d, UBad w e w' M 1 V d := by
  have hM0 := hM
  obtain ⟨m0, m1, f0, f1⟩ := hM
  have hgl : g < w.heap.size := lt_of_cell hc
  have hMl : M < w.heap.size := lt_of_cell m0
  have hgC : g ≠ w.heap.size := Nat.ne_of_lt hgl
  go_enter Tryf.func18, Tryf.ntmps18
  go_wp2_with fail
  refine (u8_last w.heap.size g 0 1 _ (by go_simp) (by go_simp) (by go_simp) hgC).mono ?_
  rintro e w' ⟨rfl, rfl⟩
  go_wp2_with fail
  refine (vec_short w.heap.size 0 0 (some ⟨g, 0, none⟩) _ (by omega) (by go_simp)).mono ?_
  rintro e w' ⟨rfl, rfl⟩
  go_wp2_with fail
  refine (end27_no _ _ _ _).mono ?_
  rintro e w' ⟨V, d, hv⟩
  obtain rfl := hv.ret
  go_wp2_with fail
  go_ret
  exact ⟨V, d, ubad_of (uout_two hM0 _ _) hv⟩

set_option maxHeartbeats 1600000 in
theorem un_bad3 (M g n x y z : Nat) (w : World) (h1 : 4 ≤ n) (hl : n ≤ 1048576) (hM : UIn w M) (_hgM : g ≠ M) (hc : w.cell? ⟨g, 0, none⟩ = some (.int .u8 1))
    (hx : w.cell? ⟨g, 1, none⟩ = some (.int .u8 x)) (hy : w.cell? ⟨g, 2, none⟩ = some (.int .u8 y)) (hz : w.cell? ⟨g, 3, none⟩ = some (.int .u8 z)) (bx : x ≤ 255) (by_ : y ≤ 255) (bz : z ≤ 255) (hb : n < 4 + n24 x y z) :
    Calls Tryf.prog 18 #[.pointer (some ⟨M, 0, none⟩), .slice (some ⟨g, 0, none⟩) n n] w fun e w' => ∃ V d, UBad w e w' M 1 V d := by
  have hM0 := hM
  obtain ⟨m0, m1, f0, f1⟩ := hM
  have hgl : g < w.heap.size := lt_of_cell hc
  have hMl : M < w.heap.size := lt_of_cell m0
  have hgC : g ≠ w.heap.size := Nat.ne_of_lt hgl
  go_enter Tryf.func18, Tryf.ntmps18
  go_wp2_with fail
  refine (u8_yes w.heap.size g 0 n 1 _ (by omega) hl (by go_simp) (by go_simp) (by go_simp) hgC).mono ?_
  rintro e w' ⟨rfl, rfl⟩
  go_wp2_with fail
  refine (vec_no w.heap.size g 1 (n - 1) x y z _ (by omega) (by omega) (by go_simp) (by go_simp) (by go_simp) (by go_simp) bx by_ bz (by omega)).mono ?_
  rintro e w' ⟨rfl, rfl⟩
  go_wp2_with fail
  refine (end27_no _ _ _ _).mono ?_
  rintro e w' ⟨V, d, hv⟩
  obtain rfl := hv.ret
  go_wp2_with fail
  go_ret
  exact ⟨V, d, ubad_of (uout_drew (uout_two hM0 _ _)) hv⟩

set_option maxHeartbeats 1600000 in
theorem un_bad4 (F : Interp) (M g n x y z : Nat) (w : World) (h1 : 4 ≤ n) (hl : n ≤ 1048576) (hM : UIn w M) (_hgM : g ≠ M) (hc : w.cell? ⟨g, 0, none⟩ = some (.int .u8 1))
    (hx : w.cell? ⟨g, 1, none⟩ = some (.int .u8 x)) (hy : w.cell? ⟨g, 2, none⟩ = some (.int .u8 y)) (hz : w.cell? ⟨g, 3, none⟩ = some (.int .u8 z)) (bx : x ≤ 255) (by_ : y ≤ 255) (bz : z ≤ 255) (hb : 4 + n24 x y z < n) (hF : Hid (F.told.answers w.tape)) :
    Calls Tryf.prog 18 #[.pointer (some ⟨M, 0, none⟩), .slice (some ⟨g, 0, none⟩) n n] w fun e w' => ∃ V d, UBad w e w' M 1 V d := by
  have hM0 := hM
  obtain ⟨m0, m1, f0, f1⟩ := hM
  have hgl : g < w.heap.size := lt_of_cell hc
  have hMl : M < w.heap.size := lt_of_cell m0
  have hgC : g ≠ w.heap.size := Nat.ne_of_lt hgl
  go_enter Tryf.func18, Tryf.ntmps18
  go_wp2_with fail
  refine (u8_yes w.heap.size g 0 n 1 _ (by omega) hl (by go_simp) (by go_simp) (by go_simp) hgC).mono ?_
  rintro e w' ⟨rfl, rfl⟩
  go_wp2_with fail
  refine (vec_yes w.heap.size g 1 (n - 1) x y z _ (by omega) (by omega) (by go_simp) (by go_simp) (by go_simp) (by go_simp) (by go_simp) bx by_ bz (by omega)).mono ?_
  rintro e w' ⟨r1, r2, rfl, rfl, hr⟩
  have HR : Hid _ := hr
  clear hr
  go_wp2_with fail
  refine (end27_left F _ _ _ _ (by omega) (by omega) (by exact hF.out)).mono ?_
  rintro e w' ⟨V, d, hv⟩
  obtain rfl := hv.ret
  go_wp2_with fail
  go_ret
  exact ⟨V, d, ubad_of (uout_drew (uout_two hM0 _ _)) hv⟩

set_option maxHeartbeats 1600000 in
theorem un_bad5 (F : Interp) (M g n x y z : Nat) (w : World) (h1 : n = 4) (hl : n ≤ 1048576) (hM : UIn w M) (_hgM : g ≠ M) (hc : w.cell? ⟨g, 0, none⟩ = some (.int .u8 1))
    (hx : w.cell? ⟨g, 1, none⟩ = some (.int .u8 x)) (hy : w.cell? ⟨g, 2, none⟩ = some (.int .u8 y)) (hz : w.cell? ⟨g, 3, none⟩ = some (.int .u8 z)) (bx : x ≤ 255) (by_ : y ≤ 255) (bz : z ≤ 255) (hb : n24 x y z = 0) (hF : Hid (F.told.answers w.tape)) :
    Calls Tryf.prog 18 #[.pointer (some ⟨M, 0, none⟩), .slice (some ⟨g, 0, none⟩) n n] w fun e w' => ∃ V d, UBad w e w' M 1 V d := by
  have hM0 := hM
  obtain ⟨m0, m1, f0, f1⟩ := hM
  have hgl : g < w.heap.size := lt_of_cell hc
  have hMl : M < w.heap.size := lt_of_cell m0
  have hgC : g ≠ w.heap.size := Nat.ne_of_lt hgl
  go_enter Tryf.func18, Tryf.ntmps18
  go_wp2_with fail
  refine (u8_yes w.heap.size g 0 n 1 _ (by omega) hl (by go_simp) (by go_simp) (by go_simp) hgC).mono ?_
  rintro e w' ⟨rfl, rfl⟩
  go_wp2_with fail
  refine (vec_yes w.heap.size g 1 (n - 1) x y z _ (by omega) (by omega) (by go_simp) (by go_simp) (by go_simp) (by go_simp) (by go_simp) bx by_ bz (by omega)).mono ?_
  rintro e w' ⟨r1, r2, rfl, rfl, hr⟩
  have HR : Hid _ := hr
  clear hr
  go_wp2_with fail
  refine (end27_ok _ _ _ _ (by omega)).mono ?_
  rintro e w' ⟨rfl, rfl⟩
  go_wp2_with (go_at_call 28; go_in)
  refine (bounds29 F _ (by exact hF.out)).mono ?_
  rintro e w' ⟨V, d, hv⟩
  obtain rfl := hv.ret
  go_wp2_with fail
  go_ret
  exact ⟨V, d, ubad_of (uout_drew (uout_later (uout_two hM0 _ _) ((Below.refl _ _).alloc (Nat.le_refl _) _))) hv⟩

set_option maxHeartbeats 1600000 in
theorem un_ok6 (M g n x y z N : Nat) (w : World) (hN : n24 x y z = N) (hN0 : 0 < N) (h1 : n = 4 + N) (hl : n ≤ 1048576) (hM : UIn w M) (_hgM : g ≠ M) (hc : w.cell? ⟨g, 0, none⟩ = some (.int .u8 1))
    (hx : w.cell? ⟨g, 1, none⟩ = some (.int .u8 x)) (hy : w.cell? ⟨g, 2, none⟩ = some (.int .u8 y)) (hz : w.cell? ⟨g, 3, none⟩ = some (.int .u8 z)) (bx : x ≤ 255) (by_ : y ≤ 255) (bz : z ≤ 255) :
    Calls Tryf.prog 18 #[.pointer (some ⟨M, 0, none⟩), .slice (some ⟨g, 0, none⟩) n n] w fun e w' => e = .returned (.pointer none) ∧ UOut w w' M 1 (.slice (some ⟨g, 4, none⟩) N N) := by
  have hM0 := hM
  obtain ⟨m0, m1, f0, f1⟩ := hM
  have hgl : g < w.heap.size := lt_of_cell hc
  have hMl : M < w.heap.size := lt_of_cell m0
  have hMl1 : M < w.heap.size + 1 := by omega
  have hMl2 : M < w.heap.size + 1 + 1 := by omega
  have hMn : M ≠ w.heap.size := by omega
  have hMn1 : M ≠ w.heap.size + 1 := by omega
  have hMn2 : M ≠ w.heap.size + 1 + 1 := by omega
  have hgC : g ≠ w.heap.size := Nat.ne_of_lt hgl
  go_enter Tryf.func18, Tryf.ntmps18
  go_wp2_with fail
  refine (u8_yes w.heap.size g 0 n 1 _ (by omega) hl (by go_simp) (by go_simp) (by go_simp) hgC).mono ?_
  rintro e w' ⟨rfl, rfl⟩
  go_wp2_with fail
  refine (vec_yes w.heap.size g 1 (n - 1) x y z _ (by omega) (by omega) (by go_simp) (by go_simp) (by go_simp) (by go_simp) (by go_simp) bx by_ bz (by omega)).mono ?_
  rintro e w' ⟨r1, r2, rfl, rfl, hr⟩
  have HR : Hid _ := hr
  clear hr
  go_wp2_with fail
  rw [hN] at HR
  obtain rfl := HR.out (by omega)
  refine (end27_ok _ _ _ _ (by omega)).mono ?_
  rintro e w' ⟨rfl, rfl⟩
  go_wp2_with (go_at_call 28; go_in)
  go_ret
  exact ⟨rfl, uout_drew (uout_later (uout_later (uout_later (uout_both hM0 _) ((Below.refl _ _).alloc (Nat.le_refl _) _)) ((Below.refl _ _).alloc (Nat.le_refl _) _)) ((Below.refl _ _).alloc (Nat.le_refl _) _))⟩
end Go.Proofs.Qxb6614227aFmt

import Derived.Test.Qxb6614227aFmtW9
import Derived.LaidEqlPtr
namespace Go.Proofs.Qxb6614227aFmt
open Go.RowKit Go.Extern.Stop Go.Stop Go.Extern

set_option maxHeartbeats 1600000 in
theorem is_nil (M : Nat) (x : Nat) (ok : Bool) (a a2 : Option Addr) (n c m c2 : Nat) (w : World) (h0 : w.cell? ⟨M, 0, none⟩ = some (.int .u8 x)) (h1 : w.cell? ⟨M, 1, none⟩ = some (.slice none 0 0)) :
    Calls Tryf.prog 10 #[.pointer (some ⟨M, 0, none⟩), .bool ok, .slice a n c, .slice a2 m c2, .bool ok, .int .u8 x, .bool false] w fun e w' => e = .returned (.bool true) ∧ w' = w := by
  have hnil := Lib.run_eql_slice_nil (P := Tryf.prog) w 22 5 none 0 0 0 0 Tryf.underlying22
  have e1 : (ok != ok) = false := by simp
  have e2 : ((x : Int) != (x : Int)) = false := by simp
  go_enter Tryf.func10, Tryf.ntmps10
  go_wp2
  go_ret
  exact ⟨rfl, rfl⟩

set_option maxHeartbeats 1600000 in
theorem is_resp (M g b off L cap : Nat) (J : Nat → Nat) (w : World) (hL : 0 < L) (hl : L ≤ 1048576) (hcap : L + 4 ≤ cap) (h0 : w.cell? ⟨M, 0, none⟩ = some (.int .u8 1)) (h1 : w.cell? ⟨M, 1, none⟩ = some (.slice (some ⟨g, 4, none⟩) L L))
    (hg : ∀ i, i < L → w.cell? ⟨g, 4 + i, none⟩ = some (.int .u8 (J i))) (hb : ∀ i, i < L → w.cell? ⟨b, off + 4 + i, none⟩ = some (.int .u8 (J i))) :
    Calls Tryf.prog 10 #[.pointer (some ⟨M, 0, none⟩), .bool true, .slice (some ⟨g, 0, none⟩) (L + 4) (L + 4), .slice (some ⟨b, off, none⟩) (L + 4) cap, .bool true, .int .u8 1, .bool true] w fun e w' => e = .returned (.bool true) ∧ ∃ k, w' = w.drewN k := by
  have S : Hid (∀ q, Calls Tryf.prog 19 #[.slice (some ⟨g, 4, none⟩) L L, .slice (some ⟨b, off + 4, none⟩) L (cap - 4)] (w.drewN q) fun e w' => e = .returned (.bool true) ∧ ∃ k, w' = (w.drewN q).drewN k) := fun q => same19 g 4 b (off + 4) L L (cap - 4) J _ hl hg hb
  clear hg hb
  have e1 : ((L + 4 : Nat) : Int) = (L : Int) + 4 := by omega
  have e2 : ((L : Int) + 4 != (L : Int) + 4) = false := by simp
  have e3 : decide ((L : Int) + 4 < 5) = false := by simp; omega
  have e4 : (4 : Int) ≤ (L : Int) + 4 := by omega
  have e5 : (4 : Int) < (L : Int) + 4 := by omega
  have e6 : (0 : Int) < (L : Int) := by omega
  have e7 : (4 : Int) ≤ (cap : Int) := by omega
  have e8 : ¬ cap = 4 := by omega
  obtain ⟨i5, hi5, -, -, -⟩ := info_parts Tryf.info5
  have hptr := fun w => run_eql_ptr_same (P := Tryf.prog) w (tp := 49) (⟨g, 4, none⟩ : Addr) Tryf.underlying49 hi5
  go_enter Tryf.func10, Tryf.ntmps10
  go_wp2_with fail
  go_quiet ((go_at_call 19; exact quiet_of_draw (S.out _)))
  go_wp2_with fail
  go_quiet (fail)
  go_wp2_with fail
  go_ret
  exact ⟨rfl, _, by rw [World.drewN_drewN]⟩

theorem drop_mid {A B C D B2 C2 : Prop} (h : (A ∧ B ∧ C) ∨ (D ∧ B2 ∧ C2)) : (A ∧ C) ∨ (D ∧ C2) := by
  rcases h with ⟨h1, _, h2⟩ | ⟨h1, _, h2⟩
  · exact .inl ⟨h1, h2⟩
  · exact .inr ⟨h1, h2⟩

theorem is_any (M g n cap : Nat) (a ain : Option Addr) (G : Nat → Nat) (r : Value) (wz : World) (hl : n ≤ 1048576) (hcap : n ≤ cap) (c0 : wz.cell? ⟨M, 0, none⟩ = some (.int .u8 (tyOf n G))) (c1 : wz.cell? ⟨M, 1, none⟩ = some r)
    (hr : (okB n G = true ∧ r = respV g n G) ∨ (okB n G = false ∧ r = .slice none 0 0)) (hain : 0 < n → ain = some ⟨g, 0, none⟩) (hc : ∀ i, i < n → wz.cell? ⟨g, i, none⟩ = some (.int .u8 (G i))) (hG : IsBytes wz a n G) :
    Calls Tryf.prog 10 #[.pointer (some ⟨M, 0, none⟩), .bool (okB n G), .slice ain n n, .slice a n cap, .bool (okB n G), .int .u8 (tyOf n G), .bool (rsOf n G)] wz fun e w' => e = .returned (.bool true) ∧ ∃ k, w' = wz.drewN k := by
  have hnil : r = .slice none 0 0 → rsOf n G = false → Calls Tryf.prog 10 #[.pointer (some ⟨M, 0, none⟩), .bool (okB n G), .slice ain n n, .slice a n cap, .bool (okB n G), .int .u8 (tyOf n G), .bool (rsOf n G)] wz fun e w' => e = .returned (.bool true) ∧ ∃ k, w' = wz.drewN k := by
    intro h1 h2
    subst h1
    rw [h2]
    refine (is_nil M (tyOf n G) (okB n G) ain a n n n cap wz c0 c1).mono ?_
    rintro e w' ⟨rfl, rfl⟩
    exact ⟨rfl, 0, rfl⟩
  rcases hr with ⟨hok, rfl⟩ | ⟨hok, rfl⟩
  · by_cases h1 : G 0 = 1
    · have h5 : 4 < n := by
        simp only [okB, h1, decide_eq_true_eq] at hok
        rcases hok.2 with h | h
        · exact absurd rfl h
        · exact h.1
      obtain ⟨L, rfl⟩ : ∃ L, n = L + 4 := ⟨n - 4, by omega⟩
      have hty : tyOf (L + 4) G = 1 := by rw [tyOf, if_neg (by omega), h1]
      have hrs : rsOf (L + 4) G = true := by simp [rsOf, hok, h1]
      obtain ⟨b, off, rfl, _⟩ := hG 0 (by omega)
      obtain rfl := hain (by omega)
      rw [hok, hty, hrs]
      rw [hty] at c0
      rw [respV, if_pos h1, Nat.add_sub_cancel] at c1
      refine is_resp M g b off L cap (fun i => G (4 + i)) wz (by omega) (by omega) hcap c0 c1 (fun i hi => hc (4 + i) (by omega)) (fun i hi => ?_)
      have := isBytes_at hG (show 4 + i < L + 4 by omega)
      rw [Nat.add_assoc]
      exact this
    · exact hnil (by rw [respV, if_neg h1]) (by simp [rsOf, h1])
  · exact hnil rfl (by simp [rsOf, hok])

set_option maxHeartbeats 800000 in
theorem law3_big (x : Int) (a1 a : Option Addr) (m cap1 n cap : Nat) (w : World) (h : 1048576 < m + n) (hn : n ≤ maxLen) (hm : m ≤ maxLen) :
    Calls Tryf.prog 3 #[.int .u8 x, .slice a1 m cap1, .slice a n cap] w fun e w' => e = .returned (.bool true) ∧ Below w.heap.size w w' := by
  go_enter Tryf.func3, Tryf.ntmps3
  go_wp2_with fail
  refine (bytes6_no x a1 a m cap1 n cap w h hm hn).mono ?_
  rintro e w' ⟨rfl, rfl⟩
  go_wp2_with fail
  go_ret
  exact ⟨rfl, Below.refl _ _⟩

set_option maxHeartbeats 3200000 in
set_option maxRecDepth 100000 in
theorem law3_in (F : Interp) (s : ByteArray) (x : Int) (a1 a : Option Addr) (m cap1 n cap : Nat) (G : Nat → Nat) (w : World) (hnm : m + n ≤ 1048576) (hcap : n ≤ cap) (hnil : Hid (a = none → n = 0 ∧ cap = 0)) (hG : IsBytes w a n G)
    (bG : Hid (∀ i, i < n → G i ≤ 255)) (hF : Hid (F.told.answers w.tape)) (hs : s.size ≤ 1000) (HN : Hid (Named w s)) :
    Calls Tryf.prog 3 #[.int .u8 x, .slice a1 m cap1, .slice a n cap] w fun e w' => e = .returned (.bool true) ∧ Below w.heap.size w w' := by
  have HG : Hid _ := hG
  clear hG
  go_enter Tryf.func3, Tryf.ntmps3
  go_wp2_with fail
  refine (bytes6_yes x a1 a m cap1 n cap w hnm).mono ?_
  rintro e w' ⟨rfl, hw⟩
  obtain rfl := hw.symm
  go_wp2_with fail
  refine (clone_any a n cap G w (by omega) hnil.out HG.out).mono ?_
  rintro e w1 ⟨ain, rfl, hb1, hain, hcl⟩
  have HB1 : Hid _ := hb1
  have HA : Hid _ := hain
  have HCl : Hid _ := hcl
  clear hb1 hain hcl hw
  go_wp2_with fail
  refine (st8 a n cap G w1 (by omega) (isBytes_below HG.out HB1.out) bG.out).mono ?_
  rintro e w2 ⟨rfl, k2, hk2⟩
  have HB2 : Hid (Below w.heap.size w w2) := by rw [hk2]; exact below_drewN HB1.out _
  have HC2 : Hid (∀ i, i < n → w2.cell? ⟨w.heap.size, i, none⟩ = some (.int .u8 (G i))) := by rw [hk2]; exact HCl.out
  clear hk2 HB1 HCl
  obtain ⟨ok, hok⟩ : ∃ ok, Hid (ok = okB n G) := ⟨_, rfl⟩
  obtain ⟨ty, hty⟩ : ∃ ty, Hid (ty = tyOf n G) := ⟨_, rfl⟩
  obtain ⟨rs, hrs⟩ : ∃ rs, Hid (rs = rsOf n G) := ⟨_, rfl⟩
  rw [← hok.out, ← hty.out, ← hrs.out]
  go_wp2_with fail
  refine (un9_new F s w.heap.size ain n G w w2 _ _ (by omega) HB2.out HA.out HC2.out bG.out hF.out hs HN.out).mono ?_
  rintro e w3 H1
  obtain ⟨e1, r1, rfl, hg1, hr1⟩ : ∃ v r, e = .returned v ∧ Hid (Got w2 w3 (tyOf n G) r) ∧ Hid ((okB n G = true ∧ v = .nilIface ∧ r = respV w.heap.size n G) ∨ (okB n G = false ∧ (∃ V, v = .iface 37 (.pointer (some ⟨V, 0, none⟩))) ∧ r = .slice none 0 0)) := by
    rcases H1 with ⟨h1, rfl, h3⟩ | ⟨h1, ⟨V, rfl⟩, h3⟩
    · exact ⟨_, _, rfl, h3, .inl ⟨h1, rfl, rfl⟩⟩
    · exact ⟨_, _, rfl, h3, .inr ⟨h1, ⟨V, rfl⟩, rfl⟩⟩
  clear H1
  go_wp2_with fail
  refine (un9_new F s w.heap.size ain n G w w3 _ _ (by omega) (HB2.out.trans (hg1.out.bel.mono HB2.out.size)) HA.out (fun i hi => cell_later hg1.out.bel (HC2.out i hi)) bG.out hF.out hs HN.out).mono ?_
  rintro e w4 H2
  obtain ⟨e2, r2, rfl, hg2, hr2⟩ : ∃ v r, e = .returned v ∧ Hid (Got w3 w4 (tyOf n G) r) ∧ Hid ((okB n G = true ∧ v = .nilIface ∧ r = respV w.heap.size n G) ∨ (okB n G = false ∧ (∃ V, v = .iface 37 (.pointer (some ⟨V, 0, none⟩))) ∧ r = .slice none 0 0)) := by
    rcases H2 with ⟨h1, rfl, h3⟩ | ⟨h1, ⟨V, rfl⟩, h3⟩
    · exact ⟨_, _, rfl, h3, .inl ⟨h1, rfl, rfl⟩⟩
    · exact ⟨_, _, rfl, h3, .inr ⟨h1, ⟨V, rfl⟩, rfl⟩⟩
  clear H2
  have h24 := hg1.out.bel.trans (hg2.out.bel.mono hg1.out.bel.size)
  have HW4 : Hid (Below w.heap.size w w4) := HB2.out.trans (h24.mono HB2.out.size)
  have hG4 := isBytes_below HG.out HW4.out
  have hC4 : ∀ i, i < n → w4.cell? ⟨w.heap.size, i, none⟩ = some (.int .u8 (G i)) := fun i hi => cell_later h24 (HC2.out i hi)
  have I1 : Hid (∀ wz : World, wz.heap = w4.heap → Calls Tryf.prog 10 #[.pointer (some ⟨w2.heap.size, 0, none⟩), .bool ok, .slice ain n n, .slice a n cap, .bool ok, .int .u8 ty, .bool rs] wz fun e w' => e = .returned (.bool true) ∧ ∃ k, w' = wz.drewN k) := by
    intro wz hz
    rw [hok.out, hty.out, hrs.out]
    exact is_any w2.heap.size w.heap.size n cap a ain G r1 wz (by omega) hcap (cell_heap hz (cell_later hg2.out.bel hg1.out.c0)) (cell_heap hz (cell_later hg2.out.bel hg1.out.c1)) (drop_mid hr1.out) HA.out (fun i hi => cell_heap hz (hC4 i hi)) (isBytes_heap hz hG4)
  have I2 : Hid (∀ wz : World, wz.heap = w4.heap → Calls Tryf.prog 10 #[.pointer (some ⟨w3.heap.size, 0, none⟩), .bool ok, .slice ain n n, .slice a n cap, .bool ok, .int .u8 ty, .bool rs] wz fun e w' => e = .returned (.bool true) ∧ ∃ k, w' = wz.drewN k) := by
    intro wz hz
    rw [hok.out, hty.out, hrs.out]
    exact is_any w3.heap.size w.heap.size n cap a ain G r2 wz (by omega) hcap (cell_heap hz hg2.out.c0) (cell_heap hz hg2.out.c1) (drop_mid hr2.out) HA.out (fun i hi => cell_heap hz (hC4 i hi)) (isBytes_heap hz hG4)
  have hkk : Hid ((ok = true ∧ e1 = .nilIface ∧ e2 = .nilIface) ∨ (ok = false ∧ (∃ V, e1 = .iface 37 (.pointer (some ⟨V, 0, none⟩))) ∧ ∃ V, e2 = .iface 37 (.pointer (some ⟨V, 0, none⟩)))) := by
    rcases hr1.out with ⟨h1, h2, _⟩ | ⟨h1, h2, _⟩
    · rcases hr2.out with ⟨k1, k2, _⟩ | ⟨k1, _, _⟩
      · exact .inl ⟨hok.out.trans h1, h2, k2⟩
      · rw [h1] at k1; cases k1
    · rcases hr2.out with ⟨k1, k2, _⟩ | ⟨k1, k2, _⟩
      · rw [h1] at k1; cases k1
      · exact .inr ⟨hok.out.trans h1, h2, k2⟩
  clear hG4 hC4 h24 hr1 hr2 hg1 hg2 HC2 HB2 hok hty hrs HG hnil bG hF HN HA
  rcases hkk.out with ⟨rfl, rfl, rfl⟩ | ⟨rfl, ⟨V1, rfl⟩, ⟨V2, rfl⟩⟩
  · clear hkk
    go_wp2_with fail
    refine (I1.out w4 rfl).mono ?_
    rintro e w5 ⟨rfl, k5, hk5⟩
    have hh5 : Hid (w5.heap = w4.heap) := by rw [hk5]; rfl
    have HW5 : Hid (Below w.heap.size w w5) := by rw [hk5]; exact below_drewN HW4.out _
    clear hk5
    go_wp2_with fail
    refine (I2.out w5 hh5.out).mono ?_
    rintro e w6 ⟨rfl, k6, hk6⟩
    have HW6 : Hid (Below w.heap.size w w6) := by rw [hk6]; exact below_drewN HW5.out _
    clear hk6
    go_wp2_with fail
    go_ret
    exact ⟨rfl, HW6.out⟩
  · clear hkk
    go_wp2_with fail
    refine (I1.out w4 rfl).mono ?_
    rintro e w5 ⟨rfl, k5, hk5⟩
    have hh5 : Hid (w5.heap = w4.heap) := by rw [hk5]; rfl
    have HW5 : Hid (Below w.heap.size w w5) := by rw [hk5]; exact below_drewN HW4.out _
    clear hk5
    go_wp2_with fail
    refine (I2.out w5 hh5.out).mono ?_
    rintro e w6 ⟨rfl, k6, hk6⟩
    have HW6 : Hid (Below w.heap.size w w6) := by rw [hk6]; exact below_drewN HW5.out _
    clear hk6
    go_wp2_with fail
    go_ret
    exact ⟨rfl, HW6.out⟩
end Go.Proofs.Qxb6614227aFmt

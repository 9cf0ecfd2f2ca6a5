import Derived.Test.Qxb6614227aFmtW5
namespace Go.Proofs.Qxb6614227aFmt
open Go.RowKit Go.Extern.Stop Go.Stop Go.Extern

/-- The type that a body of n bytes G names. -/
def tyOf (n : Nat) (G : Nat → Nat) : Nat := if n = 0 then 0 else G 0
/-- Is the body accepted? -/
def okB (n : Nat) (G : Nat → Nat) : Bool := decide (0 < n ∧ (G 0 ≠ 1 ∨ (4 < n ∧ n = 4 + n24 (G 1) (G 2) (G 3))))
/-- What an accepted body leaves as its response. -/
def respV (g n : Nat) (G : Nat → Nat) : Value := if G 0 = 1 then .slice (some ⟨g, 4, none⟩) (n - 4) (n - 4) else .slice none 0 0
/-- A body of n bytes G, at the head of its own row, apart from M. -/
structure IsBody (w : World) (M g : Nat) (a : Option Addr) (n : Nat) (G : Nat → Nat) : Prop where
  at_ : 0 < n → a = some ⟨g, 0, none⟩ ∧ g ≠ M
  cell : ∀ i, i < n → w.cell? ⟨g, i, none⟩ = some (.int .u8 (G i))
  byte : ∀ i, i < n → G i ≤ 255

theorem un18 (F : Interp) (M g : Nat) (a : Option Addr) (n : Nat) (G : Nat → Nat) (w : World) (hl : n ≤ 1048576) (hM : UIn w M) (hB : IsBody w M g a n G) (hF : Hid (F.told.answers w.tape)) :
    Calls Tryf.prog 18 #[.pointer (some ⟨M, 0, none⟩), .slice a n n] w fun e w' =>
      (okB n G = true ∧ e = .returned (.pointer none) ∧ UOut w w' M (tyOf n G) (respV g n G)) ∨ (okB n G = false ∧ ∃ V d, UBad w e w' M (tyOf n G) V d) := by
  by_cases h0 : n = 0
  · subst h0
    refine (un_bad0 M a w hM).mono ?_
    rintro e w' ⟨V, d, h⟩
    exact .inr ⟨by simp [okB], V, d, by simpa [tyOf] using h⟩
  · have hp : 0 < n := by omega
    obtain ⟨rfl, hgM⟩ := hB.at_ hp
    have hc := hB.cell 0 hp
    have hty : tyOf n G = G 0 := by simp [tyOf, h0]
    rw [hty]
    by_cases h1 : G 0 = 1
    · rw [h1] at hc ⊢
      by_cases h4 : 4 ≤ n
      · have hx := hB.cell 1 (by omega)
        have hy := hB.cell 2 (by omega)
        have hz := hB.cell 3 (by omega)
        have bx := hB.byte 1 (by omega)
        have by_ := hB.byte 2 (by omega)
        have bz := hB.byte 3 (by omega)
        rcases Nat.lt_trichotomy n (4 + n24 (G 1) (G 2) (G 3)) with hlt | heq | hgt
        · refine (un_bad3 M g n _ _ _ w h4 hl hM hgM hc hx hy hz bx by_ bz hlt).mono ?_
          rintro e w' ⟨V, d, h⟩
          exact .inr ⟨by simp [okB, h1]; omega, V, d, h⟩
        · by_cases hN : n24 (G 1) (G 2) (G 3) = 0
          · refine (un_bad5 F M g n _ _ _ w (by omega) hl hM hgM hc hx hy hz bx by_ bz hN hF).mono ?_
            rintro e w' ⟨V, d, h⟩
            exact .inr ⟨by simp [okB, h1]; omega, V, d, h⟩
          · refine (un_ok6 M g n _ _ _ (n - 4) w (by omega) (by omega) (by omega) hl hM hgM hc hx hy hz bx by_ bz).mono ?_
            rintro e w' ⟨rfl, h⟩
            exact .inl ⟨by simp [okB, h1]; omega, rfl, by simpa [respV, h1] using h⟩
        · refine (un_bad4 F M g n _ _ _ w h4 hl hM hgM hc hx hy hz bx by_ bz hgt hF).mono ?_
          rintro e w' ⟨V, d, h⟩
          exact .inr ⟨by simp [okB, h1]; omega, V, d, h⟩
      · by_cases h2 : n = 1
        · subst h2
          refine (un_bad1 M g w hM hc).mono ?_
          rintro e w' ⟨V, d, h⟩
          exact .inr ⟨by simp [okB, h1], V, d, h⟩
        · refine (un_bad2 M g n w (by omega) (by omega) hM hc).mono ?_
          rintro e w' ⟨V, d, h⟩
          exact .inr ⟨by simp [okB, h1]; omega, V, d, h⟩
    · refine (un_ok1 M g n (G 0) w hp hl (by simp; omega) hM hc).mono ?_
      rintro e w' ⟨rfl, h⟩
      exact .inl ⟨by simp [okB, h1, hp], rfl, by simpa [respV, h1] using h⟩

set_option maxHeartbeats 800000 in
theorem within22 (V : Nat) (s d : ByteArray) (w : World) (hs : s.size ≤ 1000) (hd : d.size ≤ 1000) (hc : w.cell? ⟨V, 1, none⟩ = some (.string d)) (hf : w.frozen? ⟨V, 1, none⟩ = false) :
    Calls Tryf.prog 22 #[.pointer (some ⟨V, 0, none⟩), .string s] w fun e w' => e = .returned (.pointer (some ⟨V, 0, none⟩)) ∧ ∃ v, w' = w.setCell ⟨V, 1, none⟩ v := by
  go_enter Tryf.func22, Tryf.ntmps22
  go_wp2
  go_ret
  exact ⟨rfl, _, rfl⟩

/-- A receiver: two cells that may be written, whatever they hold. -/
structure IsRecv (w : World) (M : Nat) : Prop where
  c0 : ∃ v, w.cell? ⟨M, 0, none⟩ = some v
  c1 : ∃ v, w.cell? ⟨M, 1, none⟩ = some v
  f0 : w.frozen? ⟨M, 0, none⟩ = false
  f1 : w.frozen? ⟨M, 1, none⟩ = false
/-- In every world that keeps W0's memory the message type 22 has the name s. -/
def Named (W0 : World) (s : ByteArray) : Prop := ∀ wr, Below W0.heap.size W0 wr → Calls Tryf.prog 23 #[.int .u8 22] wr fun e w' => e = .returned (.string s) ∧ w' = wr

theorem cleared {w w1 : World} {M : Nat} {o : Obj} (h : IsRecv w M) (hw : w1 = ((w.setCell ⟨M, 0, none⟩ (.int .u8 0)).setCell ⟨M, 1, none⟩ (.slice none 0 0)).alloc o) : UIn w1 M ∧ w.grownBy w1 (some M) := by
  subst hw
  obtain ⟨⟨v0, c0⟩, ⟨v1, c1⟩, f0, f1⟩ := h
  have k0 : (w.setCell ⟨M, 0, none⟩ (.int .u8 0)).cell? ⟨M, 1, none⟩ = some v1 := by rw [World.cell?_setCell_other _ _ _ _ (by simp)]; exact c1
  have k1 : ((w.setCell ⟨M, 0, none⟩ (.int .u8 0)).setCell ⟨M, 1, none⟩ (.slice none 0 0)).cell? ⟨M, 0, none⟩ = some (.int .u8 0) := by
    rw [World.cell?_setCell_other _ _ _ _ (by simp)]; exact World.cell?_setCell_same _ _ _ c0
  have k2 := World.cell?_setCell_same (w.setCell ⟨M, 0, none⟩ (.int .u8 0)) ⟨M, 1, none⟩ (.slice none 0 0) k0
  have hb := (Below.refl ((w.setCell ⟨M, 0, none⟩ (.int .u8 0)).setCell ⟨M, 1, none⟩ (.slice none 0 0)).heap.size ((w.setCell ⟨M, 0, none⟩ (.int .u8 0)).setCell ⟨M, 1, none⟩ (.slice none 0 0))).alloc (Nat.le_refl _) o
  refine ⟨⟨cell_later hb k1, cell_later hb k2, ?_, ?_⟩, gb_alloc (gb_set (gb_set (gb_refl _ _) _ _) _ _) _⟩
  · rw [hb.frozen (p := ⟨M, 0, none⟩) (lt_of_cell k1), World.frozen?_setCell, World.frozen?_setCell]; exact f0
  · rw [hb.frozen (p := ⟨M, 1, none⟩) (lt_of_cell k2), World.frozen?_setCell, World.frozen?_setCell]; exact f1
theorem cell_grown {w w1 : World} {M g i : Nat} {v : Value} (hg : w.grownBy w1 (some M)) (h : g ≠ M) (hc : w.cell? ⟨g, i, none⟩ = some v) : w1.cell? ⟨g, i, none⟩ = some v := by
  have := hg.block g (lt_of_cell hc) (by simp; omega)
  simp only [World.cell?, this] at hc ⊢
  exact hc
theorem body_grown {w w1 : World} {M g n : Nat} {a : Option Addr} {G : Nat → Nat} (hB : IsBody w M g a n G) (hg : w.grownBy w1 (some M)) : IsBody w1 M g a n G :=
  ⟨hB.at_, fun i hi => cell_grown hg (hB.at_ (by omega)).2 (hB.cell i hi), hB.byte⟩
theorem uout_trans {w w1 w2 : World} {M t : Nat} {r : Value} (hg : w.grownBy w1 (some M)) (h : UOut w1 w2 M t r) : UOut w w2 M t r := ⟨h.c0, h.c1, gb_trans hg h.grown⟩
theorem below_grown {W0 w w2 : World} {M : Nat} (hW : Below W0.heap.size W0 w) (hg : w.grownBy w2 (some M)) (hM : W0.heap.size ≤ M) : Below W0.heap.size W0 w2 :=
  hW.grown hg hW.size (fun k h => by simp at h; omega)
theorem uout_setNew {w w2 : World} {M t V : Nat} {r : Value} (h : UOut w w2 M t r) (hV : w.heap.size ≤ V) (hMV : M < V) (v : Value) : UOut w (w2.setCell ⟨V, 1, none⟩ v) M t r := by
  refine ⟨?_, ?_, gb_setNew h.grown hV _ _⟩
  · rw [World.cell?_setCell_other _ _ _ _ (by simp <;> omega)]; exact h.c0
  · rw [World.cell?_setCell_other _ _ _ _ (by simp <;> omega)]; exact h.c1

set_option maxHeartbeats 1600000 in
theorem un17 (F : Interp) (W0 : World) (s : ByteArray) (M g : Nat) (a : Option Addr) (n : Nat) (G : Nat → Nat) (w : World) (hl : n ≤ 1048576) (hR : IsRecv w M) (hB : Hid (IsBody w M g a n G)) (hF : Hid (F.told.answers w.tape))
    (hs : s.size ≤ 1000) (HN : Hid (Named W0 s)) (hW : Hid (Below W0.heap.size W0 w)) (hWM : W0.heap.size ≤ M) :
    Calls Tryf.prog 17 #[.pointer (some ⟨M, 0, none⟩), .int .u8 22, .slice a n n, .func (.func 18) #[] #[]] w fun e w' =>
      (okB n G = true ∧ e = .returned .nilIface ∧ UOut w w' M (tyOf n G) (respV g n G)) ∨ (okB n G = false ∧ (∃ V, e = .returned (.iface 37 (.pointer (some ⟨V, 0, none⟩)))) ∧ UOut w w' M (tyOf n G) (.slice none 0 0)) := by
  obtain ⟨⟨v0, c0⟩, ⟨v1, c1⟩, f0, f1⟩ := hR
  have hMl : M < w.heap.size := lt_of_cell c0
  have hMn : M ≠ w.heap.size := by omega
  have HC : Hid (∀ {w1}, w1 = ((w.setCell ⟨M, 0, none⟩ (.int .u8 0)).setCell ⟨M, 1, none⟩ (.slice none 0 0)).alloc (.cells #[.int .u8 0, .slice none 0 0] 29) → UIn w1 M ∧ w.grownBy w1 (some M)) := fun {w1} h => cleared ⟨⟨v0, c0⟩, ⟨v1, c1⟩, f0, f1⟩ h
  go_enter Tryf.func17, Tryf.ntmps17
  go_wp2_with fail
  obtain ⟨w1, hw1⟩ : ∃ w1, w1 = ((w.setCell ⟨M, 0, none⟩ (.int .u8 0)).setCell ⟨M, 1, none⟩ (.slice none 0 0)).alloc (.cells #[.int .u8 0, .slice none 0 0] 29) := ⟨_, rfl⟩
  rw [← hw1]
  obtain ⟨hU, hg⟩ := HC.out hw1
  have HU : Hid _ := hU
  have HG : Hid _ := hg
  clear hw1 hU hg c0 c1 f0 f1 HC
  refine (un18 F M g a n G w1 hl HU.out (body_grown hB.out HG.out) (by have := hF.out; rw [← HG.out.tape] at this; exact this)).mono ?_
  rintro e w2 (⟨hok, rfl, hO⟩ | ⟨hbad, V, d, hU2⟩)
  · have HO : Hid _ := uout_trans HG.out hO
    have HK : Hid _ := hok
    clear hO hok
    go_wp2_with fail
    go_ret
    exact .inl ⟨HK.out, rfl, HO.out⟩
  · obtain rfl := hU2.ret
    have HO : Hid _ := uout_trans HG.out hU2.out
    have HK : Hid _ := hbad
    have hdet := hU2.det
    have hfro := hU2.froz
    have hsho := hU2.short
    have HV : Hid (w.heap.size ≤ V) := Nat.le_trans HG.out.size hU2.new
    clear hbad hU2
    go_wp2_with fail
    refine (HN.out w2 (below_grown hW.out HO.out.grown hWM)).mono ?_
    rintro e w' ⟨rfl, hw⟩
    obtain rfl := hw.symm
    go_wp2_with fail
    refine (within22 V s d w2 hs hsho hdet hfro).mono ?_
    rintro e w' ⟨rfl, v, rfl⟩
    go_wp2_with fail
    go_ret
    exact .inr ⟨HK.out, ⟨V, rfl⟩, uout_setNew HO.out HV.out (Nat.lt_of_lt_of_le hMl HV.out) v⟩

set_option maxHeartbeats 1600000 in
theorem un9 (F : Interp) (W0 : World) (s : ByteArray) (M g : Nat) (a : Option Addr) (n : Nat) (G : Nat → Nat) (w : World) (hl : n ≤ 1048576) (hR : IsRecv w M) (hB : Hid (IsBody w M g a n G)) (hF : Hid (F.told.answers w.tape))
    (hs : s.size ≤ 1000) (HN : Hid (Named W0 s)) (hW : Hid (Below W0.heap.size W0 w)) (hWM : W0.heap.size ≤ M) :
    Calls Tryf.prog 9 #[.pointer (some ⟨M, 0, none⟩), .slice a n n] w fun e w' =>
      (okB n G = true ∧ e = .returned .nilIface ∧ UOut w w' M (tyOf n G) (respV g n G)) ∨ (okB n G = false ∧ (∃ V, e = .returned (.iface 37 (.pointer (some ⟨V, 0, none⟩)))) ∧ UOut w w' M (tyOf n G) (.slice none 0 0)) := by
  have H : Hid _ := un17 F W0 s M g a n G w hl hR hB hF hs HN hW hWM
  clear hR hB hF HN hW
  go_enter Tryf.func9, Tryf.ntmps9
  go_wp2_with fail
  refine Calls.mono H.out ?_
  rintro e w2 (⟨hok, rfl, hO⟩ | ⟨hbad, ⟨V, rfl⟩, hO⟩)
  · have HO : Hid _ := hO
    have HK : Hid _ := hok
    clear hO hok
    go_wp2_with fail
    go_ret
    exact .inl ⟨HK.out, rfl, HO.out⟩
  · have HO : Hid _ := hO
    have HK : Hid _ := hbad
    clear hO hbad
    go_wp2_with fail
    go_ret
    exact .inr ⟨HK.out, ⟨V, rfl⟩, HO.out⟩
end Go.Proofs.Qxb6614227aFmt

import Derived.Test.Qxb6614313aW2
namespace Go.Proofs.Qxb6614313a
open Go.RowKit

theorem lt_of_cell {w : World} {a : Addr} {v : Value} (h : w.cell? a = some v) : a.block < w.heap.size := by
  rcases Nat.lt_or_ge a.block w.heap.size with h' | h'
  · exact h'
  · simp [World.cell?, Array.getElem?_eq_none h'] at h
theorem ownsRow_below {w w' : World} {base e sz k : Nat} {g n : Nat} {xs : List Value} (h : w.ownsRow base e sz (.slice (some ⟨g, 0, none⟩) k n) k xs) (hb : Below w.heap.size w w') : w'.ownsRow base e sz (.slice (some ⟨g, 0, none⟩) k n) k xs := by
  obtain ⟨hl, h2⟩ := h
  refine ⟨hl, ?_⟩
  rcases h2 with h' | ⟨g', cap, cur, h', hbg, hg, r⟩
  · exact .inl h'
  · exact .inr ⟨g', cap, cur, h', hbg, (hb.block g' (Array.getElem?_eq_some_iff.1 hg).1).trans hg, r⟩
theorem Try.info47 : (Try.prog.info? 47).map (fun i => (i.zero, i.size, i.bytes)) = some (some (.pointer none), 1, 8) := by kernel_rfl

def ptr (V : Nat) : Value := .pointer (some ⟨V, 0, none⟩)
/-- The pointers to the first k clients. -/
def ptrs (V : Nat → Nat) (k : Nat) : List Value := (List.range k).map fun i => ptr (V i)
theorem ptrs_succ (V : Nat → Nat) (k : Nat) : ptrs V (k + 1) = ptrs V k ++ [ptr (V k)] := by simp [ptrs, List.range_succ]
theorem ptrs_congr {V V' : Nat → Nat} {k : Nat} (h : ∀ i, i < k → V i = V' i) : ptrs V k = ptrs V' k := by
  unfold ptrs
  refine List.map_congr_left fun i hi => ?_
  rw [h i (List.mem_range.1 hi)]

/-- Of the dues that are built in w's new row, k stand, with room for n. -/
structure Built (w wr : World) (F : Nat → Int) (k n : Nat) : Prop where
  bel : Below w.heap.size w wr
  row : ∃ V : Nat → Nat, wr.ownsRow w.heap.size 47 1 (.slice (some ⟨w.heap.size, 0, none⟩) k n) k (ptrs V k) ∧ ∀ i, i < k → IsClient wr (V i) (F i) ∧ w.heap.size < V i

theorem Built.step {w wr w2 w3 w4 : World} {F : Nat → Int} {k n V0 : Nat} {V : Nat → Nat} (hb : Below w.heap.size w wr) (h6 : ∀ i, i < k → IsClient wr (V i) (F i) ∧ w.heap.size < V i) (h2 : Below wr.heap.size wr w2) (hc : IsClient w2 V0 (F k)) (hV : wr.heap.size ≤ V0)
   (h3 : Below w2.heap.size w2 w3) (h4 : w3.grownBy w4 (some w.heap.size)) (ho : w4.ownsRow w.heap.size 47 1 (.slice (some ⟨w.heap.size, 0, none⟩) (k + 1) n) (k + 1) (ptrs V k ++ [ptr V0])) (hlt : w.heap.size < wr.heap.size) : Built w w4 F (k + 1) n := by
  have hb3 : Below w.heap.size w w3 := (hb.trans (h2.mono hb.size)).trans (h3.mono (Nat.le_trans hb.size h2.size))
  have hcl : ∀ U v, w.heap.size < U → IsClient w3 U v → IsClient w4 U v := by
    intro U v hU hc
    have hne : U ≠ w.heap.size := by omega
    have hcell : ∀ j x, w3.cell? ⟨U, j, none⟩ = some x → w4.cell? ⟨U, j, none⟩ = some x := by
      intro j x hx
      have := h4.block U (lt_of_cell hx) (by simp; omega)
      simp only [World.cell?, this] at hx ⊢
      exact hx
    exact ⟨hcell _ _ hc.u, hcell _ _ hc.s, hcell _ _ hc.l⟩
  refine ⟨hb3.grown h4 hb3.size (fun q h => by simp at h; omega), fun i => if i = k then V0 else V i, ?_, ?_⟩
  · rw [ptrs_succ, if_pos rfl]
    rw [ptrs_congr (V' := V) (fun i hi => by rw [if_neg (by omega)])]
    exact ho
  · intro i hi
    by_cases hik : i = k
    · subst hik
      simp only [if_true]
      exact ⟨hcl _ _ (by omega) (isClient_below hc h3), by omega⟩
    · simp only [if_neg hik]
      obtain ⟨a1, a2⟩ := h6 i (by omega)
      exact ⟨hcl _ _ a2 (isClient_below (isClient_below a1 h2) h3), a2⟩

theorem new_cell (w : World) (V : Nat) : ∀ j u, [ptr V][j]? = some u → (w.alloc (.cells #[.pointer (some ⟨V, 0, none⟩)] 47)).cell? ((⟨w.heap.size, 0, none⟩ : Addr).add j) = some u := by
  intro j u h
  match j, h with
  | 0, h => simp at h; subst h; rw [WideShapes.add_plain]; show (w.alloc _).cell? _ = some (.pointer (some ⟨V, 0, none⟩)); go_simp
theorem ptr_one (V : Nat) : ∀ u ∈ [ptr V], u.oneCell' = true := by
  intro u h
  simp at h
  subst h
  rfl

set_option maxHeartbeats 1600000 in
theorem build6 (b off n cap : Nat) (F : Nat → Int) (w : World) (hn : n ≤ 65536) (hF : ∀ k, k < n → w.cell? ⟨b, off + k, none⟩ = some (.int .i64 (F k))) (hI : Hid (∀ k, k < n → InI (F k))) :
    Calls Try.prog 6 #[.slice (some ⟨b, off, none⟩) n cap] w fun e w' => e = .returned (.slice (some ⟨w.heap.size, 0, none⟩) n n) ∧ Built w w' F n n := by
  obtain ⟨i0, hi, hz0, hz1, hz2⟩ := info_parts Try.info47
  have hbytes : Hid (i0.bytes * n ≤ 281474976710656) := by show _ ≤ _; rw [hz2]; omega
  have hmax : Hid (n ≤ maxLen) := by show _ ≤ _; unfold maxLen; omega
  have HF : Hid _ := hF
  clear hF
  go_enter Try.func6, Try.ntmps6
  go_wp2_with (at_make; refine wpList_make_own _ rfl _ _ 25 rfl w.heap.size 47 i0 (.pointer none) 1 Try.underlying25 hi hz0 hz1 _ _ _ n rfl rfl (by omega) hbytes.out hmax.out (Nat.le_refl _) ?_; intro w1 hown hgrow)
  have hB1 : Built w w1 F 0 n := ⟨(Below.refl _ _).grown hgrow (Nat.le_refl _) (fun k h => by cases h), fun _ => 0, by simpa [ptrs] using hown, fun i hi => by omega⟩
  have hlt1 : Hid (w.heap.size < w1.heap.size) := by
    obtain ⟨_, h2⟩ := hown
    rcases h2 with ⟨h', _⟩ | ⟨g', cap, cur, h', _, hg, _⟩
    · simp at h'
    · simp only [Value.slice.injEq, Option.some.injEq, Addr.mk.injEq, and_true] at h'
      obtain ⟨rfl, _⟩ := h'
      exact (Array.getElem?_eq_some_iff.1 hg).1
  clear hown hgrow hbytes hmax
  go_loopw [3, 4] (fun d i wr => ∃ k : Nat, k ≤ n ∧ i = .int .i64 k ∧ d = .slice (some ⟨w.heap.size, 0, none⟩) k n ∧ Built w wr F k n ∧ w.heap.size < wr.heap.size) (fun _ i _ => n - (intOf i).toNat)
  case atStart => exact ⟨0, by omega, rfl, rfl, hB1, hlt1.out⟩
  case round =>
    obtain ⟨k, hk, rfl, rfl, hB, hltr⟩ := hrel
    by_cases hlt : k < n
    · have hck := cell_later hB.bel (HF.out k hlt)
      obtain ⟨hbr, V, hrow, hcl⟩ := hB
      have HBR : Hid _ := hbr
      have HROW : Hid _ := hrow
      have HCL : Hid _ := hcl
      clear hbr hrow hcl hB1
      go_wp2_with fail
      refine (client22 (F k) _ (hI.out k hlt)).mono ?_
      rintro e w2 ⟨V0, rfl, hc2, hV0, hb2⟩
      have HB2 : Hid _ := hb2
      have HC2 : Hid _ := hc2
      have HV0 : Hid _ := hV0
      clear hb2 hc2 hV0 hck
      go_wp2_with (at_builtin; refine wpList_append_fits _ rfl (.tmp 14) (.tmp 20) 25 rfl w.heap.size 47 i0 1 Try.underlying25 hi hz1 w.heap.size k n _ rfl (ownsRow_below (ownsRow_below HROW.out HB2.out) ((Below.refl _ _).alloc (Nat.le_refl _) _)) ⟨w2.heap.size, 0, none⟩ 1 1 [ptr V0] rfl rfl (new_cell _ _) (ptr_one _) (by omega) ?_; intro w4 hown4 hgrow4)
      have HN : Hid (Built w w4 F (k + 1) n) := Built.step HBR.out HCL.out HB2.out HC2.out HV0.out ((Below.refl _ _).alloc (Nat.le_refl _) _) hgrow4 hown4 hltr
      have HL : Hid (w.heap.size < w4.heap.size) := by
        have := hgrow4.size
        have h2 := HB2.out.size
        simp at this
        show _ < _
        omega
      clear hown4 hgrow4 hltr
      go_wp2_with fail
      go_roundw
      case rel => exact ⟨k + 1, by omega, by go_num, rfl, HN.out, HL.out⟩
      case measure => simp [intOf]; omega
    · obtain rfl : k = n := by omega
      go_wp2_with fail
      go_ret
      exact ⟨rfl, hB⟩

/-- What stands behind the build: the row of dues. -/
structure Dues (w0 w : World) (g n : Nat) (V : Nat → Nat) (F : Nat → Int) : Prop where
  ptr : ∀ i, i < n → w.cell? ⟨g, i, none⟩ = some (.pointer (some ⟨V i, 0, none⟩))
  froz : ∀ i, i < n → w.frozen? ⟨g, i, none⟩ = false
  cl : ∀ i, i < n → IsClient w (V i) (F i) ∧ g < V i
  bel : Below w0.heap.size w0 w
  at_ : w0.heap.size ≤ g
theorem Built.dues {w w' : World} {F : Nat → Int} {n : Nat} (h : Built w w' F n n) : ∃ V, Dues w w' w.heap.size n V F := by
  obtain ⟨hb, V, ⟨hl, h2⟩, hc⟩ := h
  refine ⟨V, ?_, ?_, hc, hb, Nat.le_refl _⟩
  all_goals
    intro i hi
    rcases h2 with ⟨h', _⟩ | ⟨g', cap, cur, h', _, hg, _, _, hcs, htake⟩
    · simp at h'
    · simp only [Value.slice.injEq, Option.some.injEq, Addr.mk.injEq, and_true, true_and] at h'
      obtain ⟨rfl, rfl⟩ := h'
      have hcur : cur.toList = ptrs V n := by rw [← htake, List.take_of_length_le]; simp; omega
      simp only [World.cell?, World.frozen?, hg]
      first
      | (have : cur[i]? = some (Qxb6614313a.ptr (V i)) := by
          rw [← Array.getElem?_toList, hcur]; simp [ptrs, hi]
         exact this)
      | simp
theorem Dues.swap {w0 w : World} {g n : Nat} {V : Nat → Nat} {F : Nat → Int} (h : Dues w0 w g n V F) {i j : Nat} (hi : i < n) (hj : j < n) :
    Dues w0 ((w.setCell ⟨g, i, none⟩ (.pointer (some ⟨V j, 0, none⟩))).setCell ⟨g, j, none⟩ (.pointer (some ⟨V i, 0, none⟩))).drew g n (fun k => V (sw i j k)) (fun k => F (sw i j k)) := by
  have hlt : ∀ k, k < n → sw i j k < n := by intro k hk; unfold sw; split; · exact hj
                                             split; · exact hi
                                             exact hk
  have hcell : ∀ U b v, g < U → (((w.setCell ⟨g, i, none⟩ (.pointer (some ⟨V j, 0, none⟩))).setCell ⟨g, j, none⟩ (.pointer (some ⟨V i, 0, none⟩))).drew.cell? ⟨U, b, none⟩ = some v ↔ w.cell? ⟨U, b, none⟩ = some v) := by
    intro U b v hU
    show World.cell? (World.setCell _ _ _) _ = some v ↔ _
    rw [World.cell?_setCell_other _ _ _ _ (by simp <;> omega), World.cell?_setCell_other _ _ _ _ (by simp <;> omega)]
  refine ⟨fun k hk => ?_, fun k hk => ?_, fun k hk => ?_, ?_, h.at_⟩
  · show World.cell? (World.setCell _ _ _) _ = _
    have hj' : ∃ v, (w.setCell ⟨g, i, none⟩ (.pointer (some ⟨V j, 0, none⟩))).cell? ⟨g, j, none⟩ = some v := by
      by_cases hij : i = j
      · subst hij; exact ⟨_, World.cell?_setCell_same _ _ _ (h.ptr i hi)⟩
      · rw [World.cell?_setCell_other _ _ _ _ (by simp <;> omega)]; exact ⟨_, h.ptr j hj⟩
    obtain ⟨v, hv⟩ := hj'
    unfold sw
    by_cases hkj : k = j
    · subst hkj
      rw [World.cell?_setCell_same _ _ _ hv]
      by_cases hki : k = i
      · subst hki; simp
      · simp [hki]
    · rw [World.cell?_setCell_other _ _ _ _ (by simp <;> omega)]
      by_cases hki : k = i
      · subst hki
        rw [World.cell?_setCell_same _ _ _ (h.ptr k hk)]
        simp
      · rw [World.cell?_setCell_other _ _ _ _ (by simp <;> omega), h.ptr k hk]
        simp [hki, hkj]
  · show World.frozen? (World.setCell _ _ _) _ = _
    rw [World.frozen?_setCell, World.frozen?_setCell]; exact h.froz k hk
  · obtain ⟨hc, hg⟩ := h.cl (sw i j k) (hlt k hk)
    exact ⟨⟨(hcell _ _ _ hg).2 hc.u, (hcell _ _ _ hg).2 hc.s, (hcell _ _ _ hg).2 hc.l⟩, hg⟩
  · exact ((h.bel.setCell (p := ⟨g, i, none⟩) h.at_ _).setCell (p := ⟨g, j, none⟩) h.at_ _).drew
theorem Dues.below {w0 w w' : World} {g n : Nat} {V : Nat → Nat} {F : Nat → Int} (h : Dues w0 w g n V F) (hb : Below w.heap.size w w') : Dues w0 w' g n V F := by
  refine ⟨fun i hi => cell_later hb (h.ptr i hi), fun i hi => ?_, fun i hi => ⟨isClient_below (h.cl i hi).1 hb, (h.cl i hi).2⟩, h.bel.trans (hb.mono h.bel.size), h.at_⟩
  rw [hb.frozen (p := ⟨g, i, none⟩) (lt_of_cell (h.ptr i hi))]
  exact h.froz i hi

theorem swap_any {w0 w : World} {g n c i j : Nat} {V : Nat → Nat} {F : Nat → Int} (h : Dues w0 w g n V F) (hn : n ≤ 65536) (hi : i < n) (hj : j < n) :
    Calls Try.prog 8 #[.slice (some ⟨g, 0, none⟩) n c, .int .i64 i, .int .i64 j] w fun e w' => e = .returned (.tuple #[]) ∧ Dues w0 w' g n (fun k => V (sw i j k)) (fun k => F (sw i j k)) := by
  by_cases hij : i = j
  · subst hij
    refine (swap8_same g i n c (V i) w hi hn (h.ptr i hi) (h.froz i hi)).mono ?_
    rintro e w' ⟨rfl, rfl⟩
    exact ⟨rfl, h.swap hi hi⟩
  · refine (swap8 g i j n c (V i) (V j) w hi hj hn hij (h.ptr i hi) (h.ptr j hj) (h.froz i hi) (h.froz j hj)).mono ?_
    rintro e w' ⟨rfl, rfl⟩
    exact ⟨rfl, h.swap hi hj⟩
theorem less_any {w0 w : World} {g n c i j : Nat} {V : Nat → Nat} {F : Nat → Int} (h : Dues w0 w g n V F) (hn : n ≤ 65536) (hi : i < n) (hj : j < n) :
    Calls Try.prog 7 #[.slice (some ⟨g, 0, none⟩) n c, .int .i64 i, .int .i64 j] w fun e w' => e = .returned (.bool (decide (F i < F j))) ∧ Dues w0 w' g n V F := by
  refine (less7 g i j n c (V i) (V j) (F i) (F j) w hi hj hn (h.ptr i hi) (h.ptr j hj) (h.cl i hi).1 (h.cl j hj).1).mono ?_
  rintro e w' ⟨rfl, hb⟩
  exact ⟨rfl, h.below hb⟩
end Go.Proofs.Qxb6614313a

import Derived.Test.Qxb6613651aDoorW1
namespace Go.Proofs.Qxb6613651aDoor
open Go.RowKit

theorem Tryd.info9 : (Tryd.prog.info? 9).map (fun i => (i.zero, i.size, i.bytes)) = some (some (.string ⟨#[]⟩), 1, 16) := by kernel_rfl

/-- The list with x put in at place k. -/
def insF (F : Nat → ByteArray) (k : Nat) (x : ByteArray) (i : Nat) : ByteArray := if i < k then F i else if i = k then x else F (i - 1)
/-- The cells of a row of n strings. -/
def rowOf (G : Nat → ByteArray) (n : Nat) : List Value := (List.range n).map fun i => Value.string (G i)
theorem rowOf_length (G : Nat → ByteArray) (n : Nat) : (rowOf G n).length = n := by simp [rowOf]
theorem rowOf_succ (G : Nat → ByteArray) (n : Nat) {x : ByteArray} (h : x = G n) : rowOf G n ++ [.string x] = rowOf G (n + 1) := by subst h; simp [rowOf, List.range_succ]
theorem rowOf_at (G : Nat → ByteArray) (n j : Nat) (h : j < n) : (rowOf G n)[j]? = some (.string (G j)) := by simp [rowOf, h]
theorem insF_lo {F : Nat → ByteArray} {k : Nat} {x : ByteArray} {i : Nat} (h : i < k) : F i = insF F k x i := by simp [insF, h]
theorem insF_at {F : Nat → ByteArray} {k : Nat} {x : ByteArray} : x = insF F k x k := by simp [insF]
theorem insF_hi {F : Nat → ByteArray} {k : Nat} {x : ByteArray} {i : Nat} (h : k ≤ i) : F i = insF F k x (i + 1) := by
  unfold insF; rw [if_neg (by omega), if_neg (by omega)]; rfl

theorem isStrs_below {w w' : World} {a : Option Addr} {n : Nat} {F : Nat → ByteArray} (h : IsStrs w a n F) (hb : Below w.heap.size w w') : IsStrs w' a n F := by
  intro i hi
  obtain ⟨b, off, ha, hc⟩ := h i hi
  exact ⟨b, off, ha, cell_later hb hc⟩

theorem isStrs_own {w : World} {B g n cap : Nat} {G : Nat → ByteArray} (h : w.ownsRow B 9 1 (.slice (some ⟨g, 0, none⟩) n cap) n (rowOf G n)) : IsStrs w (some ⟨g, 0, none⟩) n G := by
  intro i hi
  exact ⟨g, 0, rfl, by rw [Nat.zero_add, h.cellAt i (by omega), rowOf_at G n i hi]⟩

set_option maxHeartbeats 1000000 in
theorem insert8 (a : Option Addr) (len cap k : Nat) (x : ByteArray) (F : Nat → ByteArray) (w : World) (hm : len ≤ 65536) (hk : k ≤ len) (hS : IsStrs w a len F) :
    Calls Tryd.prog 8 #[.slice a len cap, .int .i64 k, .string x] w fun e w' =>
      ∃ g c, e = .returned (.slice (some ⟨g, 0, none⟩) (len + 1) c) ∧ IsStrs w' (some ⟨g, 0, none⟩) (len + 1) (insF F k x) ∧ Below w.heap.size w w' := by
  obtain ⟨i0, hi, hz0, hz1, hz2⟩ := info_parts Tryd.info9
  have hbytes : i0.bytes * (len + 1) ≤ 281474976710656 := by rw [hz2]; omega
  have hmax : len + 1 ≤ maxLen := by unfold maxLen; omega
  go_enter Tryd.func8, Tryd.ntmps8
  go_wp2_with (at_make; refine wpList_make_own _ rfl _ _ 22 rfl w.heap.size 9 i0 (.string ⟨#[]⟩) 1 Tryd.underlying22 hi hz0 hz1 _ _ _ (len + 1) rfl rfl (by omega) hbytes hmax (Nat.le_refl _) ?_)
  intro w1 hown hgrow
  have hB1 : Below w.heap.size w w1 := (Below.refl _ _).grown hgrow (Nat.le_refl _) (fun k h => by cases h)
  clear hgrow hbytes hmax
  go_wp2
  go_loopw [7, 8] (fun v i wr => ∃ j : Nat, j ≤ k ∧ i = .int .i64 j ∧ v = .slice (some ⟨w.heap.size, 0, none⟩) j (len + 1) ∧ wr.ownsRow w.heap.size 9 1 (.slice (some ⟨w.heap.size, 0, none⟩) j (len + 1)) j (rowOf (insF F k x) j) ∧ Below w.heap.size w wr)
    (fun _ i _ => k - (intOf i).toNat)
  case atStart => exact ⟨0, Nat.zero_le _, rfl, rfl, hown, hB1⟩
  case round =>
    obtain ⟨j, hj, rfl, rfl, hownr, hBr⟩ := hrel
    by_cases hlt : j < k
    · obtain ⟨b, off, rfl, hcell0⟩ := hS j (by omega)
      have hcell := cell_later hBr hcell0
      clear hcell0 hown hB1
      go_wp2_with (at_builtin; refine wpList_append_fits _ rfl _ _ 22 rfl w.heap.size 9 i0 1 Tryd.underlying22 hi hz1 w.heap.size j (len + 1) _ rfl (hownr.alloc _) ⟨wr.heap.size, 0, none⟩ 1 1 [.string (F j)] rfl rfl (cell_one_new _ _ _) (by intro u hu; simp at hu; subst hu; rfl) (by omega) ?_)
      intro w2 hown2 hgrow2
      have hB2 : Below w.heap.size w w2 := (hBr.alloc hBr.size _).grown hgrow2 (by have := hBr.size; simp; omega) (fun k h => by cases h; exact Nat.le_refl _)
      rw [rowOf_succ _ _ (insF_lo hlt)] at hown2
      clear hgrow2 hcell hownr hBr
      go_wp2
      go_roundw
      case rel => exact ⟨j + 1, by omega, by go_num, rfl, hown2, hB2⟩
      case measure => simp [intOf]; omega
    · obtain rfl : j = k := by omega
      clear hown hB1
      go_wp2_with (at_builtin; refine wpList_append_fits _ rfl _ _ 22 rfl w.heap.size 9 i0 1 Tryd.underlying22 hi hz1 w.heap.size j (len + 1) _ rfl (hownr.alloc _) ⟨wr.heap.size, 0, none⟩ 1 1 [.string x] rfl rfl (cell_one_new _ _ _) (by intro u hu; simp at hu; subst hu; rfl) (by omega) ?_)
      intro w2 hown2 hgrow2
      have hB2 : Below w.heap.size w w2 := (hBr.alloc hBr.size _).grown hgrow2 (by have := hBr.size; simp; omega) (fun k h => by cases h; exact Nat.le_refl _)
      rw [rowOf_succ _ _ insF_at] at hown2
      clear hgrow2 hownr hBr
      go_wp2
      go_loopw [7, 9] (fun v i wr => ∃ q : Nat, j ≤ q ∧ q ≤ len ∧ i = .int .i64 q ∧ v = .slice (some ⟨w.heap.size, 0, none⟩) (q + 1) (len + 1) ∧ wr.ownsRow w.heap.size 9 1 (.slice (some ⟨w.heap.size, 0, none⟩) (q + 1) (len + 1)) (q + 1) (rowOf (insF F j x) (q + 1)) ∧ Below w.heap.size w wr)
        (fun _ i _ => len - (intOf i).toNat)
      case atStart => exact ⟨j, Nat.le_refl _, hk, rfl, rfl, hown2, hB2⟩
      case round =>
        obtain ⟨q, hjq, hq, rfl, rfl, hownr, hBr⟩ := hrel
        clear hown2 hB2
        by_cases hlt : q < len
        · obtain ⟨b, off, rfl, hcell0⟩ := hS q (by omega)
          have hcell := cell_later hBr hcell0
          clear hcell0
          go_wp2_with (at_builtin; refine wpList_append_fits _ rfl _ _ 22 rfl w.heap.size 9 i0 1 Tryd.underlying22 hi hz1 w.heap.size (q + 1) (len + 1) _ rfl (hownr.alloc _) ⟨wr.heap.size, 0, none⟩ 1 1 [.string (F q)] rfl rfl (cell_one_new _ _ _) (by intro u hu; simp at hu; subst hu; rfl) (by omega) ?_)
          intro w3 hown3 hgrow3
          have hB3 : Below w.heap.size w w3 := (hBr.alloc hBr.size _).grown hgrow3 (by have := hBr.size; simp; omega) (fun k h => by cases h; exact Nat.le_refl _)
          rw [rowOf_succ _ _ (insF_hi hjq)] at hown3
          clear hgrow3 hcell hownr hBr
          go_wp2
          go_roundw
          case rel => exact ⟨q + 1, by omega, by omega, by go_num, rfl, hown3, hB3⟩
          case measure => simp [intOf]; omega
        · obtain rfl : q = len := by omega
          go_wp2
          go_ret
          exact ⟨w.heap.size, q + 1, rfl, isStrs_own hownr, hBr⟩

end Go.Proofs.Qxb6613651aDoor

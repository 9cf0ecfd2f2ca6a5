import Derived.Test.Qxb6613651aDoorW7
import Derived.Laws.CopyOwn
namespace Go.Proofs.Qxb6613651aDoor
open Go.RowKit

theorem own_full {w : World} {B e g n : Nat} {xs : List Value} (h : w.ownsRow B e 1 (.slice (some ⟨g, 0, none⟩) n n) n xs) : w.heap[g]? = some (.cells xs.toArray e (0, 0)) := by
  obtain ⟨hl, h2⟩ := h
  rcases h2 with ⟨h', _⟩ | ⟨g', cap, cur, h', _, hg, _, _, hcs, htake⟩
  · simp at h'
  · simp only [Value.slice.injEq, Option.some.injEq, Addr.mk.injEq, and_true, true_and] at h'
    obtain ⟨rfl, rfl⟩ := h'
    rw [hg]
    have : cur.toList = xs := by rw [← htake, List.take_of_length_le]; simp; omega
    rw [← this]

theorem splice_all {L cs : List Value} (h : cs.length = L.length) : splice L 0 cs = cs := by
  unfold splice
  rw [List.take_zero, Nat.zero_add, h, List.drop_length]; simp

theorem copied {w : World} {g len : Nat} {L : List Value} {F : Nat → ByteArray} (hL : L.length = len) (h : w.heap[g]? = some (.cells (splice L 0 (rowOf F len)).toArray 9 (0, 0))) : IsStrs w (some ⟨g, 0, none⟩) len F := by
  intro i hi
  rw [splice_all (by rw [rowOf_length, hL])] at h
  refine ⟨g, 0, rfl, ?_⟩
  simp only [World.cell?, h]
  simp [rowOf, hi]

theorem rowOf_one (F : Nat → ByteArray) (n : Nat) : ∀ v ∈ rowOf F n, v.oneCell' = true := by
  intro v hv
  simp only [rowOf, List.mem_map] at hv
  obtain ⟨i, _, rfl⟩ := hv
  rfl

theorem src_cells {w : World} {ad : Addr} {len : Nat} {F : Nat → ByteArray} (hS : IsStrs w (some ad) len F) : ∃ ad', some ad = some ad' ∧ ∀ j v, (rowOf F len)[j]? = some v → w.cell? (ad'.add j) = some v := by
  refine ⟨ad, rfl, fun j v hv => ?_⟩
  have hj : j < len := by have := (List.getElem?_eq_some_iff.1 hv).1; rwa [rowOf_length] at this
  rw [rowOf_at F len j hj] at hv
  obtain ⟨b, off, hb, hc⟩ := hS j hj
  obtain rfl := Option.some.inj hb
  rw [WideShapes.add_plain, hc, ← hv]

theorem Tryd.size9 : (Tryd.prog.info? 9).map (·.size) = some 1 := by kernel_rfl


theorem isStrs_at0 {w : World} {g n i : Nat} {F : Nat → ByteArray} (h : IsStrs w (some ⟨g, 0, none⟩) n F) (hi : i < n) : w.cell? ⟨g, i, none⟩ = some (.string (F i)) := by
  obtain ⟨b, off, hbo, hcell⟩ := h i hi
  simp only [Option.some.injEq, Addr.mk.injEq, and_true] at hbo
  obtain ⟨rfl, rfl⟩ := hbo
  rwa [Nat.zero_add] at hcell
theorem dpEmpty_list : dpEmpty.toList = [101, 109, 112, 116, 121, 58, 32, 119, 97, 110, 116, 32, 97, 32, 110, 97, 109, 101] := by decide +kernel
theorem dpKey_list : dpKey.toList = [100, 101, 108, 105, 118, 101, 114, 121, 45, 112, 114, 111, 116, 111, 99, 111, 108, 115] := by decide +kernel
theorem dpMissing_list : dpMissing.toList = [109, 105, 115, 115, 105, 110, 103] := by decide +kernel
theorem key_same (k : Nat) : Ending.returned (Value.bool ((keyOf k).toList == (dpPre ++ ⟨(Lib.decDigits k).toArray⟩ ++ ⟨#[93]⟩).toList)) = .returned (.bool true) := by
  have : keyOf k = dpPre ++ ⟨(Lib.decDigits k).toArray⟩ ++ ⟨#[93]⟩ := by
    apply ByteArray.ext
    rw [← Array.toList_inj, keyOf_list]
    simp [ByteArray.data_append]
  rw [this]; simp
theorem below2 {w w2 w3 : World} (h2 : Below w.heap.size w w2) (h3 : Below w2.heap.size w2 w3) : Below w.heap.size w w3 := h2.trans (h3.mono h2.size)
theorem below5 {w w2 w3 w4 w5 w6 : World} (h2 : Below w.heap.size w w2) (h3 : Below w2.heap.size w2 w3) (h4 : Below w3.heap.size w3 w4) (h5 : Below w4.heap.size w4 w5) (h6 : Below w5.heap.size w5 w6) : Below w.heap.size w w6 := below2 (below2 (below2 (below2 h2 h3) h4) h5) h6
def e0 : ByteArray := ⟨#[]⟩
theorem e0_em : e0.toList.isEmpty = true := by decide +kernel
theorem first_ins_no {F : Nat → ByteArray} {n k : Nat} (h : NoE F n) (hk : k ≤ n) : FirstE (insF F k e0) (n + 1) k :=
  ⟨by omega, by rw [← insF_at]; exact e0_em, fun i hi => by rw [← insF_lo hi]; exact h i (by omega)⟩
theorem first_ins_lo {F : Nat → ByteArray} {n k m : Nat} (h : FirstE F n m) (hk : k ≤ n) (hmk : m < k) : FirstE (insF F k e0) (n + 1) m :=
  ⟨by omega, by rw [← insF_lo hmk]; exact h.2.1, fun i hi => by rw [← insF_lo (by omega)]; exact h.2.2 i hi⟩
theorem first_ins_hi {F : Nat → ByteArray} {n k m : Nat} (h : FirstE F n m) (hk : k ≤ n) (hmk : k ≤ m) : FirstE (insF F k e0) (n + 1) k :=
  ⟨by omega, by rw [← insF_at]; exact e0_em, fun i hi => by rw [← insF_lo hi]; exact h.2.2 i (by omega)⟩
end Go.Proofs.Qxb6613651aDoor

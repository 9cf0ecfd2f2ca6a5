import Derived.Test.Qxb6613651aDoorW8
namespace Go.Proofs.Qxb6613651aDoor
open Go.RowKit

theorem no_ins {F : Nat → ByteArray} {n k : Nat} {x : ByteArray} (h : NoE F n) (hk : k ≤ n) (hx : x.toList.isEmpty = false) : NoE (insF F k x) (n + 1) := by
  intro i hi
  rcases (show i < k ∨ i = k ∨ k < i by omega) with h1 | h1 | h1
  · rw [← insF_lo h1]; exact h i (by omega)
  · subst h1; rw [← insF_at]; exact hx
  · obtain ⟨j, rfl⟩ : ∃ j, i = j + 1 := ⟨i - 1, by omega⟩
    rw [← insF_hi (by omega)]; exact h j (by omega)
theorem first_insx_lo {F : Nat → ByteArray} {n k m : Nat} {x : ByteArray} (h : FirstE F n m) (_hk : k ≤ n) (_hx : x.toList.isEmpty = false) (hmk : m < k) : FirstE (insF F k x) (n + 1) m :=
  ⟨by have := h.1; omega, by rw [← insF_lo hmk]; exact h.2.1, fun i hi => by rw [← insF_lo (by omega)]; exact h.2.2 i hi⟩
theorem first_insx_hi {F : Nat → ByteArray} {n k m : Nat} {x : ByteArray} (h : FirstE F n m) (_hk : k ≤ n) (hx : x.toList.isEmpty = false) (hmk : k ≤ m) : FirstE (insF F k x) (n + 1) (m + 1) :=
  ⟨by have := h.1; omega, by rw [← insF_hi hmk]; exact h.2.1, fun i hi => by
    have hN : NoE F m := fun j hj => h.2.2 j hj
    exact no_ins hN hmk hx i hi⟩

set_option maxRecDepth 10000 in
set_option maxHeartbeats 1000000 in
theorem law4_tot (ad : Addr) (len cap : Nat) (k : Int) (x : ByteArray) (F : Nat → ByteArray) (w : World) (hm : len ≤ 65536) (hx0 : x.size ≤ 1048576) (htot : ¬ 16 * len + x.size ≤ 1048576) (hS : IsStrs w (some ad) len F) (HF : Hid (∀ i, i < len → (F i).size ≤ maxLen)) :
    Calls Tryd.prog 4 #[.slice (some ad) len cap, .int .i64 k, .string x] w fun e w' => e = .returned (.bool true) ∧ Below w.heap.size w w' := by
  obtain ⟨i0, hi, hz0, hz1, hz2⟩ := info_parts Tryd.info9
  have hbytes : Hid (i0.bytes * len ≤ 281474976710656) := by show _ ≤ _; rw [hz2]; omega
  have hmax : Hid (len ≤ maxLen) := by show _ ≤ _; unfold maxLen; omega
  have hxm : Hid (x.size ≤ maxLen) := by show _ ≤ _; unfold maxLen; omega
  have hneq := fun w => run_neq_slice_nil_any (P := Tryd.prog) w 22 9 (some ad) len cap 0 0 Tryd.underlying22
  go_enter Tryd.func4, Tryd.ntmps4
  go_wp2_with (first
    | (go_at_call 13; refine (bytes13 (some ad) len cap k x F _ hmax.out hxm.out hS HF.out).mono ?_; rintro e w' ⟨⟨_ | _, rfl⟩, hw⟩ <;> obtain rfl := hw.symm)
    | (at_make; refine wpList_make_full _ rfl _ _ 22 rfl w.heap.size 9 i0 (.string ⟨#[]⟩) 1 Tryd.underlying22 hi hz0 hz1 _ _ _ _ len rfl rfl (by omega) (by omega) hbytes.out hmax.out (Nat.le_refl _) ?_; intro w1 hown hgrow; have hB1 : Below w.heap.size w w1 := (Below.refl _ _).grown hgrow (Nat.le_refl _) (fun k h => by cases h); have hS1 := isStrs_below hS hB1; have hrow : Hid (w1.heap[w.heap.size]? = _) := own_full hown; have hrl := hown.1; clear hown hgrow)
    | (refine wpList_copy_splice rfl (.tmp 40) (.tmp 41) 22 22 rfl 9 Tryd.underlying22 Tryd.size9 (some ⟨w.heap.size, 0, none⟩) (some ad) len len len cap rfl rfl w.heap.size 0 _ 9 hrow.out (rowOf F len) (by rw [rowOf_length]; simp) (fun _ => ⟨rfl, src_cells hS1⟩) (by rw [rowOf_length, Nat.zero_add, hrl]; omega) (rowOf_one F len) w.heap.size w hB1 (Nat.le_refl _) ?_; intro w2 hg2 hB2; have hS2 := copied (by rw [hrl, Nat.mul_one]) hg2.out; clear hg2))
  · go_ret
    exact ⟨rfl, Below.refl _ _⟩
  · go_ret
    exact ⟨rfl, hB2⟩

set_option maxRecDepth 10000 in
set_option maxHeartbeats 1000000 in
theorem law4_out (ad : Addr) (len cap : Nat) (k : Int) (x : ByteArray) (F : Nat → ByteArray) (w : World) (hm : len ≤ 65536) (hx0 : x.size ≤ 1048576) (htot : 16 * len + x.size ≤ 1048576) (hk : k < 0 ∨ (len : Int) < k) (hS : IsStrs w (some ad) len F) (HF : Hid (∀ i, i < len → (F i).size ≤ maxLen)) :
    Calls Tryd.prog 4 #[.slice (some ad) len cap, .int .i64 k, .string x] w fun e w' => e = .returned (.bool true) ∧ Below w.heap.size w w' := by
  obtain ⟨i0, hi, hz0, hz1, hz2⟩ := info_parts Tryd.info9
  have hbytes : Hid (i0.bytes * len ≤ 281474976710656) := by show _ ≤ _; rw [hz2]; omega
  have hmax : Hid (len ≤ maxLen) := by show _ ≤ _; unfold maxLen; omega
  have hxm : Hid (x.size ≤ maxLen) := by show _ ≤ _; unfold maxLen; omega
  have hneq := fun w => run_neq_slice_nil_any (P := Tryd.prog) w 22 9 (some ad) len cap 0 0 Tryd.underlying22
  go_enter Tryd.func4, Tryd.ntmps4
  go_wp2_with (first
    | (go_at_call 13; refine (bytes13 (some ad) len cap k x F _ hmax.out hxm.out hS HF.out).mono ?_; rintro e w' ⟨⟨_ | _, rfl⟩, hw⟩ <;> obtain rfl := hw.symm)
    | (at_make; refine wpList_make_full _ rfl _ _ 22 rfl w.heap.size 9 i0 (.string ⟨#[]⟩) 1 Tryd.underlying22 hi hz0 hz1 _ _ _ _ len rfl rfl (by omega) (by omega) hbytes.out hmax.out (Nat.le_refl _) ?_; intro w1 hown hgrow; have hB1 : Below w.heap.size w w1 := (Below.refl _ _).grown hgrow (Nat.le_refl _) (fun k h => by cases h); have hS1 := isStrs_below hS hB1; have hrow : Hid (w1.heap[w.heap.size]? = _) := own_full hown; have hrl := hown.1; clear hown hgrow)
    | (refine wpList_copy_splice rfl (.tmp 40) (.tmp 41) 22 22 rfl 9 Tryd.underlying22 Tryd.size9 (some ⟨w.heap.size, 0, none⟩) (some ad) len len len cap rfl rfl w.heap.size 0 _ 9 hrow.out (rowOf F len) (by rw [rowOf_length]; simp) (fun _ => ⟨rfl, src_cells hS1⟩) (by rw [rowOf_length, Nat.zero_add, hrl]; omega) (rowOf_one F len) w.heap.size w hB1 (Nat.le_refl _) ?_; intro w2 hg2 hB2; have hS2 := copied (by rw [hrl, Nat.mul_one]) hg2.out; clear hg2))
  · go_ret
    exact ⟨rfl, Below.refl _ _⟩
  · clear hrow hrl hS1 hB1 hneq hbytes
    go_loop [6, 8, 9] (fun r t i => ∃ j z : Nat, j ≤ len ∧ i = .int .i64 j ∧ z ≤ 1048576 ∧ t = .int .i64 z) (fun _ _ i => len - (intOf i).toNat)
    case atStart => exact ⟨0, 16 * len + x.size, Nat.zero_le _, rfl, htot, by go_num⟩
    case round =>
      obtain ⟨j, z, hj, rfl, hz, rfl⟩ := hrel
      by_cases hlt : j < len
      · have hcell := isStrs_at0 hS2 hlt
        have hFj := HF.out j hlt
        unfold maxLen at hFj
        go_wp2
        · go_ret
          exact ⟨rfl, hB2⟩
        · go_ret
          exact ⟨rfl, hB2⟩
        · go_round
          case rel => exact ⟨j + 1, z + (F j).size, by omega, by go_num, by omega, by go_num⟩
          case measure => simp [intOf]; omega
      · rcases hk with hk | hk
        · go_wp2_with fail
          go_ret
          exact ⟨rfl, hB2⟩
        · by_cases hk0 : k < 0
          · omega
          · go_wp2_with fail
            go_ret
            exact ⟨rfl, hB2⟩

set_option maxRecDepth 10000 in
set_option maxHeartbeats 1000000 in
theorem law4_xe (ad : Addr) (len cap : Nat) (k : Nat) (x : ByteArray) (F : Nat → ByteArray) (w : World) (hm : len ≤ 65536) (hx0 : x.size ≤ 1048576) (htot : 16 * len + x.size ≤ 1048576) (hk : k ≤ len) (hx : x.toList.isEmpty = true) (hS : IsStrs w (some ad) len F) (HF : Hid (∀ i, i < len → (F i).size ≤ maxLen)) :
    Calls Tryd.prog 4 #[.slice (some ad) len cap, .int .i64 k, .string x] w fun e w' => e = .returned (.bool true) ∧ Below w.heap.size w w' := by
  obtain ⟨i0, hi, hz0, hz1, hz2⟩ := info_parts Tryd.info9
  have hbytes : Hid (i0.bytes * len ≤ 281474976710656) := by show _ ≤ _; rw [hz2]; omega
  have hmax : Hid (len ≤ maxLen) := by show _ ≤ _; unfold maxLen; omega
  have hxm : Hid (x.size ≤ maxLen) := by show _ ≤ _; unfold maxLen; omega
  have hneq := fun w => run_neq_slice_nil_any (P := Tryd.prog) w 22 9 (some ad) len cap 0 0 Tryd.underlying22
  go_enter Tryd.func4, Tryd.ntmps4
  go_wp2_with (first
    | (go_at_call 13; refine (bytes13 (some ad) len cap k x F _ hmax.out hxm.out hS HF.out).mono ?_; rintro e w' ⟨⟨_ | _, rfl⟩, hw⟩ <;> obtain rfl := hw.symm)
    | (at_make; refine wpList_make_full _ rfl _ _ 22 rfl w.heap.size 9 i0 (.string ⟨#[]⟩) 1 Tryd.underlying22 hi hz0 hz1 _ _ _ _ len rfl rfl (by omega) (by omega) hbytes.out hmax.out (Nat.le_refl _) ?_; intro w1 hown hgrow; have hB1 : Below w.heap.size w w1 := (Below.refl _ _).grown hgrow (Nat.le_refl _) (fun k h => by cases h); have hS1 := isStrs_below hS hB1; have hrow : Hid (w1.heap[w.heap.size]? = _) := own_full hown; have hrl := hown.1; clear hown hgrow)
    | (refine wpList_copy_splice rfl (.tmp 40) (.tmp 41) 22 22 rfl 9 Tryd.underlying22 Tryd.size9 (some ⟨w.heap.size, 0, none⟩) (some ad) len len len cap rfl rfl w.heap.size 0 _ 9 hrow.out (rowOf F len) (by rw [rowOf_length]; simp) (fun _ => ⟨rfl, src_cells hS1⟩) (by rw [rowOf_length, Nat.zero_add, hrl]; omega) (rowOf_one F len) w.heap.size w hB1 (Nat.le_refl _) ?_; intro w2 hg2 hB2; have hS2 := copied (by rw [hrl, Nat.mul_one]) hg2.out; clear hg2))
  · go_ret
    exact ⟨rfl, Below.refl _ _⟩
  · clear hrow hrl hS1 hB1 hneq hbytes
    go_loop [6, 8, 9] (fun r t i => ∃ j z : Nat, j ≤ len ∧ i = .int .i64 j ∧ z ≤ 1048576 ∧ t = .int .i64 z) (fun _ _ i => len - (intOf i).toNat)
    case atStart => exact ⟨0, 16 * len + x.size, Nat.zero_le _, rfl, htot, by go_num⟩
    case round =>
      obtain ⟨j, z, hj, rfl, hz, rfl⟩ := hrel
      by_cases hlt : j < len
      · have hcell := isStrs_at0 hS2 hlt
        have hFj := HF.out j hlt
        unfold maxLen at hFj
        go_wp2
        · go_ret
          exact ⟨rfl, hB2⟩
        · go_ret
          exact ⟨rfl, hB2⟩
        · go_round
          case rel => exact ⟨j + 1, z + (F j).size, by omega, by go_num, by omega, by go_num⟩
          case measure => simp [intOf]; omega
      · go_wp2_with fail
        go_ret
        exact ⟨rfl, hB2⟩

set_option maxRecDepth 10000 in
set_option maxHeartbeats 1000000 in
theorem law4_big (a : Option Addr) (len cap : Nat) (k : Int) (x : ByteArray) (F : Nat → ByteArray) (w : World) (hb : 65536 < len ∨ (len ≤ 65536 ∧ 1048576 < x.size)) (HM : Hid (len ≤ maxLen)) (HX : Hid (x.size ≤ maxLen)) (hS : IsStrs w a len F) (HF : Hid (∀ i, i < len → (F i).size ≤ maxLen)) :
    Calls Tryd.prog 4 #[.slice a len cap, .int .i64 k, .string x] w fun e w' => e = .returned (.bool true) ∧ Below w.heap.size w w' := by
  rcases hb with hb | ⟨hb, hb2⟩
  all_goals
    go_enter Tryd.func4, Tryd.ntmps4
    go_wp2_with (go_at_call 13; refine (bytes13 a len cap k x F _ HM.out HX.out hS HF.out).mono ?_; rintro e w' ⟨⟨_ | _, rfl⟩, hw⟩ <;> obtain rfl := hw.symm)
    all_goals
      go_ret
      exact ⟨rfl, Below.refl _ _⟩

set_option maxRecDepth 10000 in
set_option maxHeartbeats 1000000 in
theorem law4_nil (k : Int) (x : ByteArray) (w : World) (hx0 : x.size ≤ 1048576) :
    Calls Tryd.prog 4 #[.slice none 0 0, .int .i64 k, .string x] w fun e w' => e = .returned (.bool true) ∧ Below w.heap.size w w' := by
  have hS : IsStrs w none 0 (fun _ => e0) := fun i hi => absurd hi (by omega)
  have HF : Hid (∀ i, i < 0 → ((fun _ => e0) i).size ≤ maxLen) := fun i hi => absurd hi (by omega)
  have hxm : Hid (x.size ≤ maxLen) := by show _ ≤ _; unfold maxLen; omega
  have hneq := fun w => run_neq_slice_nil_any (P := Tryd.prog) w 22 9 none 0 0 0 0 Tryd.underlying22
  have heq := fun w' => Lib.run_eql_slice_nil (P := Tryd.prog) w' 22 9 none 0 0 0 0 Tryd.underlying22
  go_enter Tryd.func4, Tryd.ntmps4
  go_wp2_with (go_at_call 13; refine (bytes13 none 0 0 k x (fun _ => e0) _ (Nat.zero_le _) hxm.out hS HF.out).mono ?_; rintro e w' ⟨⟨_ | _, rfl⟩, hw⟩ <;> obtain rfl := hw.symm)
  · go_ret
    exact ⟨rfl, Below.refl _ _⟩
  · refine wp_loop_rounds 1 ?_
    rw [rounds_succ]
    rcases (show k < 0 ∨ k = 0 ∨ (¬ k < 0 ∧ 0 < k) by omega) with hk | hk | ⟨hk0, hk⟩
    · go_wp2_with fail
      go_ret
      exact ⟨rfl, Below.refl _ _⟩
    · subst hk
      cases hx : x.toList.isEmpty
      · go_wp2_with fail
        refine (insert8 none 0 0 0 x (fun _ => e0) w (by omega) (Nat.le_refl _) hS).mono ?_
        rintro e w3 ⟨g3, c3, rfl, hS3, hB3⟩
        go_wp2_with fail
        refine (chk_nil w3).mono ?_
        rintro e w4 ⟨rfl, hB4⟩
        have hS3' := isStrs_below hS3 hB4
        go_wp2_with fail
        refine (chk_none g3 0 (0 + 1) c3 (insF (fun _ => e0) 0 x) w4 (by omega) hS3' (no_ins (fun i hi => absurd hi (by omega)) (Nat.le_refl _) hx)).mono ?_
        rintro e w5 ⟨rfl, hB5⟩
        have hdk := dpKey_list
        have hdm := dpMissing_list
        go_wp2_with fail
        go_ret
        exact ⟨rfl, below2 (below2 hB3 hB4) hB5⟩
      · go_wp2_with fail
        go_ret
        exact ⟨rfl, Below.refl _ _⟩
    · go_wp2_with fail
      go_ret
      exact ⟨rfl, Below.refl _ _⟩

end Go.Proofs.Qxb6613651aDoor

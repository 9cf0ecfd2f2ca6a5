import Derived.Test.Qxb6613651aDoorW8
namespace Go.Proofs.Qxb6613651aDoor
open Go.RowKit

set_option maxRecDepth 10000 in
set_option maxHeartbeats 1000000 in
theorem law3_no (ad : Addr) (len cap k : Nat) (F : Nat → ByteArray) (w : World) (hm : len ≤ 65536) (hk : k ≤ len) (hS : IsStrs w (some ad) len F) (HF : Hid (∀ i, i < len → (F i).size ≤ maxLen)) (hT : TabOk w) (hN : NoE F len) :
    Calls Tryd.prog 3 #[.slice (some ad) len cap, .int .i64 k] w fun e w' => e = .returned (.bool true) ∧ Below w.heap.size w w' := by
  obtain ⟨i0, hi, hz0, hz1, hz2⟩ := info_parts Tryd.info9
  have hbytes : Hid (i0.bytes * len ≤ 281474976710656) := by show _ ≤ _; rw [hz2]; omega
  have hmax : Hid (len ≤ maxLen) := by show _ ≤ _; unfold maxLen; omega
  have hneq := fun w => run_neq_slice_nil_any (P := Tryd.prog) w 22 9 (some ad) len cap 0 0 Tryd.underlying22
  go_enter Tryd.func3, Tryd.ntmps3
  go_wp2_with (first
    | (go_at_call 7; refine (bytes7 (some ad) len cap k F _ hmax.out hS HF.out).mono ?_; rintro e w' ⟨⟨_ | _, rfl⟩, hw⟩ <;> obtain rfl := hw.symm)
    | (at_make; refine wpList_make_full _ rfl _ _ 22 rfl w.heap.size 9 i0 (.string ⟨#[]⟩) 1 Tryd.underlying22 hi hz0 hz1 _ _ _ _ len rfl rfl (by omega) (by omega) hbytes.out hmax.out (Nat.le_refl _) ?_; intro w1 hown hgrow; have hB1 : Below w.heap.size w w1 := (Below.refl _ _).grown hgrow (Nat.le_refl _) (fun k h => by cases h); have hS1 := isStrs_below hS hB1; have hrow : Hid (w1.heap[w.heap.size]? = _) := own_full hown; have hrl := hown.1; clear hown hgrow)
    | (refine wpList_copy_splice rfl (.tmp 33) (.tmp 34) 22 22 rfl 9 Tryd.underlying22 Tryd.size9 (some ⟨w.heap.size, 0, none⟩) (some ad) len len len cap rfl rfl w.heap.size 0 _ 9 hrow.out (rowOf F len) (by rw [rowOf_length]; simp) (fun _ => ⟨rfl, src_cells hS1⟩) (by rw [rowOf_length, Nat.zero_add, hrl]; omega) (rowOf_one F len) w.heap.size w hB1 (Nat.le_refl _) ?_; intro w2 hg2 hB2; have hS2 := copied (by rw [hrl, Nat.mul_one]) hg2.out; clear hg2))
  · go_ret
    exact ⟨rfl, Below.refl _ _⟩
  · have hT2 := hT.later hB2
    clear hrow hrl hS1 hB1 hneq hbytes hT hS
    go_loop [4, 6, 7] (fun r t i => ∃ j z : Nat, j ≤ len ∧ i = .int .i64 j ∧ z ≤ 1048576 ∧ t = .int .i64 z) (fun _ _ i => len - (intOf i).toNat)
    case atStart => exact ⟨0, 16 * len, Nat.zero_le _, rfl, by omega, by go_num⟩
    case round =>
      obtain ⟨j, z, hj, rfl, hz, rfl⟩ := hrel
      by_cases hlt : j < len
      · have hcell := isStrs_at0 hS2 hlt
        have hFj := HF.out j hlt
        unfold maxLen at hFj
        go_wp2
        · go_ret
          exact ⟨rfl, hB2⟩
        · go_ret
          exact ⟨rfl, hB2⟩
        · go_round
          case rel => exact ⟨j + 1, z + (F j).size, by omega, by go_num, by omega, by go_num⟩
          case measure => simp [intOf]; omega
      · go_wp2_with fail
        refine (insert8 _ len len k e0 F w2 hm hk hS2).mono ?_
        rintro e w3 ⟨g3, c3, rfl, hS3, hB3⟩
        have hS2' := isStrs_below hS2 hB3
        go_wp2_with fail
        refine (chk_none w.heap.size 0 len len F w3 (by omega) hS2' hN).mono ?_
        rintro e w4 ⟨rfl, hB4⟩
        have hS3' := isStrs_below hS3 hB4
        have hT4 := (hT2.later hB3).later hB4
        go_wp2_with fail
        refine (chk_first (some ⟨g3, 0, none⟩) (len + 1) c3 k (insF F k e0) w4 (by omega) hS3' (first_ins_no hN hk) (itoaAt hT4 (by omega))).mono ?_
        rintro e w5 ⟨rfl, hB5⟩
        have hS5 := isStrs_below (isStrs_below hS2' hB4) hB5
        have heq := fun w' => Lib.run_eql_slice_nil (P := Tryd.prog) w' 22 9 (some ⟨w.heap.size, 0, none⟩) len len 0 0 Tryd.underlying22
        go_wp2_with fail
        refine (has_no (some ⟨w.heap.size, 0, none⟩) len len F w5 hm hS5 hN).mono ?_
        rintro e w' ⟨rfl, hw⟩
        obtain rfl := hw.symm
        have hsz : (Lib.decDigits k).length ≤ 7 := digits7 (by omega)
        have hde := dpEmpty_list
        go_wp2_with fail
        refine (itoa12_all k w5 (by omega)).mono ?_
        rintro e w6 ⟨rfl, hB6⟩
        go_wp2_with fail
        go_ret
        exact ⟨key_same k, below5 hB2 hB3 hB4 hB5 hB6⟩
set_option maxRecDepth 10000 in
set_option maxHeartbeats 1000000 in
theorem law3_lo (ad : Addr) (len cap k m : Nat) (F : Nat → ByteArray) (w : World) (hm : len ≤ 65536) (hk : k ≤ len) (hS : IsStrs w (some ad) len F) (HF : Hid (∀ i, i < len → (F i).size ≤ maxLen)) (hT : TabOk w) (hN : FirstE F len m) (hmk : m < k) :
    Calls Tryd.prog 3 #[.slice (some ad) len cap, .int .i64 k] w fun e w' => e = .returned (.bool true) ∧ Below w.heap.size w w' := by
  obtain ⟨i0, hi, hz0, hz1, hz2⟩ := info_parts Tryd.info9
  have hbytes : Hid (i0.bytes * len ≤ 281474976710656) := by show _ ≤ _; rw [hz2]; omega
  have hmax : Hid (len ≤ maxLen) := by show _ ≤ _; unfold maxLen; omega
  have hneq := fun w => run_neq_slice_nil_any (P := Tryd.prog) w 22 9 (some ad) len cap 0 0 Tryd.underlying22
  go_enter Tryd.func3, Tryd.ntmps3
  go_wp2_with (first
    | (go_at_call 7; refine (bytes7 (some ad) len cap k F _ hmax.out hS HF.out).mono ?_; rintro e w' ⟨⟨_ | _, rfl⟩, hw⟩ <;> obtain rfl := hw.symm)
    | (at_make; refine wpList_make_full _ rfl _ _ 22 rfl w.heap.size 9 i0 (.string ⟨#[]⟩) 1 Tryd.underlying22 hi hz0 hz1 _ _ _ _ len rfl rfl (by omega) (by omega) hbytes.out hmax.out (Nat.le_refl _) ?_; intro w1 hown hgrow; have hB1 : Below w.heap.size w w1 := (Below.refl _ _).grown hgrow (Nat.le_refl _) (fun k h => by cases h); have hS1 := isStrs_below hS hB1; have hrow : Hid (w1.heap[w.heap.size]? = _) := own_full hown; have hrl := hown.1; clear hown hgrow)
    | (refine wpList_copy_splice rfl (.tmp 33) (.tmp 34) 22 22 rfl 9 Tryd.underlying22 Tryd.size9 (some ⟨w.heap.size, 0, none⟩) (some ad) len len len cap rfl rfl w.heap.size 0 _ 9 hrow.out (rowOf F len) (by rw [rowOf_length]; simp) (fun _ => ⟨rfl, src_cells hS1⟩) (by rw [rowOf_length, Nat.zero_add, hrl]; omega) (rowOf_one F len) w.heap.size w hB1 (Nat.le_refl _) ?_; intro w2 hg2 hB2; have hS2 := copied (by rw [hrl, Nat.mul_one]) hg2.out; clear hg2))
  · go_ret
    exact ⟨rfl, Below.refl _ _⟩
  · have hT2 := hT.later hB2
    clear hrow hrl hS1 hB1 hneq hbytes hT hS
    go_loop [4, 6, 7] (fun r t i => ∃ j z : Nat, j ≤ len ∧ i = .int .i64 j ∧ z ≤ 1048576 ∧ t = .int .i64 z) (fun _ _ i => len - (intOf i).toNat)
    case atStart => exact ⟨0, 16 * len, Nat.zero_le _, rfl, by omega, by go_num⟩
    case round =>
      obtain ⟨j, z, hj, rfl, hz, rfl⟩ := hrel
      by_cases hlt : j < len
      · have hcell := isStrs_at0 hS2 hlt
        have hFj := HF.out j hlt
        unfold maxLen at hFj
        go_wp2
        · go_ret
          exact ⟨rfl, hB2⟩
        · go_ret
          exact ⟨rfl, hB2⟩
        · go_round
          case rel => exact ⟨j + 1, z + (F j).size, by omega, by go_num, by omega, by go_num⟩
          case measure => simp [intOf]; omega
      · go_wp2_with fail
        refine (insert8 _ len len k e0 F w2 hm hk hS2).mono ?_
        rintro e w3 ⟨g3, c3, rfl, hS3, hB3⟩
        have hS2' := isStrs_below hS2 hB3
        go_wp2_with fail
        have hT3 := hT2.later hB3
        refine (chk_first (some ⟨w.heap.size, 0, none⟩) len len m F w3 (by omega) hS2' hN (itoaAt hT3 (by have := hN.1; omega))).mono ?_
        rintro e w4 ⟨rfl, hB4⟩
        have hS3' := isStrs_below hS3 hB4
        have hT4 := hT3.later hB4
        go_wp2_with fail
        refine (chk_first (some ⟨g3, 0, none⟩) (len + 1) c3 m (insF F k e0) w4 (by omega) hS3' (first_ins_lo hN hk hmk) (itoaAt hT4 (by have := hN.1; omega))).mono ?_
        rintro e w5 ⟨rfl, hB5⟩
        have hS5 := isStrs_below (isStrs_below hS2' hB4) hB5
        have heq := fun w' => Lib.run_eql_slice_nil (P := Tryd.prog) w' 22 9 (some ⟨w.heap.size, 0, none⟩) len len 0 0 Tryd.underlying22
        go_wp2_with fail
        refine (has_first (some ⟨w.heap.size, 0, none⟩) len len m F w5 hm hS5 hN).mono ?_
        rintro e w' ⟨rfl, hw⟩
        obtain rfl := hw.symm
        go_wp2_with fail
        refine (index11 m w5 (by have := hN.1; omega)).mono ?_
        rintro e w6 ⟨rfl, hB6⟩
        have hS6 := isStrs_below hS5 hB6
        have hde := dpEmpty_list
        have hB26 := below5 hB2 hB3 hB4 hB5 hB6
        clear hB2 hB3 hB4 hB5 hB6 hT2 hT3 hT4 hS2 hS2' hS3 hS3' hS5
        have hcm := isStrs_at0 hS6 hN.1
        have hem := hN.2.1
        have hml := hN.1
        go_wp2_with fail
        have hsz : (Lib.decDigits m).length ≤ 7 := digits7 (by omega)
        clear hcm
        go_loop [4, 20] (fun _ i => ∃ q : Nat, q ≤ m ∧ i = .int .i64 q) (fun _ i => m - (intOf i).toNat)
        case atStart => exact ⟨0, Nat.zero_le _, rfl⟩
        case round =>
          obtain ⟨q, hq, rfl⟩ := hrel
          by_cases hqm : q < m
          · have hcq := isStrs_at0 hS6 (show q < len by omega)
            have hne := hN.2.2 q hqm
            clear hem
            go_wp2_with fail
            go_round
            case rel => exact ⟨q + 1, by omega, by go_num⟩
            case measure => simp [intOf]; omega
          · go_wp2_with fail
            refine (itoa12_all m w6 (by omega)).mono ?_
            rintro e w7 ⟨rfl, hB7⟩
            go_wp2_with fail
            go_ret
            exact ⟨key_same m, below2 hB26 hB7⟩

set_option maxRecDepth 10000 in
set_option maxHeartbeats 1000000 in
theorem law3_hi (ad : Addr) (len cap k m : Nat) (F : Nat → ByteArray) (w : World) (hm : len ≤ 65536) (hk : k ≤ len) (hS : IsStrs w (some ad) len F) (HF : Hid (∀ i, i < len → (F i).size ≤ maxLen)) (hT : TabOk w) (hN : FirstE F len m) (hmk : k ≤ m) :
    Calls Tryd.prog 3 #[.slice (some ad) len cap, .int .i64 k] w fun e w' => e = .returned (.bool true) ∧ Below w.heap.size w w' := by
  obtain ⟨i0, hi, hz0, hz1, hz2⟩ := info_parts Tryd.info9
  have hbytes : Hid (i0.bytes * len ≤ 281474976710656) := by show _ ≤ _; rw [hz2]; omega
  have hmax : Hid (len ≤ maxLen) := by show _ ≤ _; unfold maxLen; omega
  have hneq := fun w => run_neq_slice_nil_any (P := Tryd.prog) w 22 9 (some ad) len cap 0 0 Tryd.underlying22
  go_enter Tryd.func3, Tryd.ntmps3
  go_wp2_with (first
    | (go_at_call 7; refine (bytes7 (some ad) len cap k F _ hmax.out hS HF.out).mono ?_; rintro e w' ⟨⟨_ | _, rfl⟩, hw⟩ <;> obtain rfl := hw.symm)
    | (at_make; refine wpList_make_full _ rfl _ _ 22 rfl w.heap.size 9 i0 (.string ⟨#[]⟩) 1 Tryd.underlying22 hi hz0 hz1 _ _ _ _ len rfl rfl (by omega) (by omega) hbytes.out hmax.out (Nat.le_refl _) ?_; intro w1 hown hgrow; have hB1 : Below w.heap.size w w1 := (Below.refl _ _).grown hgrow (Nat.le_refl _) (fun k h => by cases h); have hS1 := isStrs_below hS hB1; have hrow : Hid (w1.heap[w.heap.size]? = _) := own_full hown; have hrl := hown.1; clear hown hgrow)
    | (refine wpList_copy_splice rfl (.tmp 33) (.tmp 34) 22 22 rfl 9 Tryd.underlying22 Tryd.size9 (some ⟨w.heap.size, 0, none⟩) (some ad) len len len cap rfl rfl w.heap.size 0 _ 9 hrow.out (rowOf F len) (by rw [rowOf_length]; simp) (fun _ => ⟨rfl, src_cells hS1⟩) (by rw [rowOf_length, Nat.zero_add, hrl]; omega) (rowOf_one F len) w.heap.size w hB1 (Nat.le_refl _) ?_; intro w2 hg2 hB2; have hS2 := copied (by rw [hrl, Nat.mul_one]) hg2.out; clear hg2))
  · go_ret
    exact ⟨rfl, Below.refl _ _⟩
  · have hT2 := hT.later hB2
    clear hrow hrl hS1 hB1 hneq hbytes hT hS
    go_loop [4, 6, 7] (fun r t i => ∃ j z : Nat, j ≤ len ∧ i = .int .i64 j ∧ z ≤ 1048576 ∧ t = .int .i64 z) (fun _ _ i => len - (intOf i).toNat)
    case atStart => exact ⟨0, 16 * len, Nat.zero_le _, rfl, by omega, by go_num⟩
    case round =>
      obtain ⟨j, z, hj, rfl, hz, rfl⟩ := hrel
      by_cases hlt : j < len
      · have hcell := isStrs_at0 hS2 hlt
        have hFj := HF.out j hlt
        unfold maxLen at hFj
        go_wp2
        · go_ret
          exact ⟨rfl, hB2⟩
        · go_ret
          exact ⟨rfl, hB2⟩
        · go_round
          case rel => exact ⟨j + 1, z + (F j).size, by omega, by go_num, by omega, by go_num⟩
          case measure => simp [intOf]; omega
      · go_wp2_with fail
        refine (insert8 _ len len k e0 F w2 hm hk hS2).mono ?_
        rintro e w3 ⟨g3, c3, rfl, hS3, hB3⟩
        have hS2' := isStrs_below hS2 hB3
        go_wp2_with fail
        have hT3 := hT2.later hB3
        refine (chk_first (some ⟨w.heap.size, 0, none⟩) len len m F w3 (by omega) hS2' hN (itoaAt hT3 (by have := hN.1; omega))).mono ?_
        rintro e w4 ⟨rfl, hB4⟩
        have hS3' := isStrs_below hS3 hB4
        have hT4 := hT3.later hB4
        go_wp2_with fail
        refine (chk_first (some ⟨g3, 0, none⟩) (len + 1) c3 k (insF F k e0) w4 (by omega) hS3' (first_ins_hi hN hk hmk) (itoaAt hT4 (by have := hN.1; omega))).mono ?_
        rintro e w5 ⟨rfl, hB5⟩
        have hS5 := isStrs_below (isStrs_below hS2' hB4) hB5
        have heq := fun w' => Lib.run_eql_slice_nil (P := Tryd.prog) w' 22 9 (some ⟨w.heap.size, 0, none⟩) len len 0 0 Tryd.underlying22
        go_wp2_with fail
        refine (has_first (some ⟨w.heap.size, 0, none⟩) len len m F w5 hm hS5 hN).mono ?_
        rintro e w' ⟨rfl, hw⟩
        obtain rfl := hw.symm
        go_wp2_with fail
        refine (index11 m w5 (by have := hN.1; omega)).mono ?_
        rintro e w6 ⟨rfl, hB6⟩
        have hS6 := isStrs_below hS5 hB6
        have hde := dpEmpty_list
        have hB26 := below5 hB2 hB3 hB4 hB5 hB6
        clear hB2 hB3 hB4 hB5 hB6 hT2 hT3 hT4 hS2 hS2' hS3 hS3' hS5
        have hcm := isStrs_at0 hS6 hN.1
        have hem := hN.2.1
        have hml := hN.1
        go_wp2_with fail
        have hsz : (Lib.decDigits k).length ≤ 7 := digits7 (by omega)
        clear hcm
        go_loop [4, 20] (fun _ i => ∃ q : Nat, q ≤ m ∧ i = .int .i64 q) (fun _ i => m - (intOf i).toNat)
        case atStart => exact ⟨0, Nat.zero_le _, rfl⟩
        case round =>
          obtain ⟨q, hq, rfl⟩ := hrel
          by_cases hqm : q < m
          · have hcq := isStrs_at0 hS6 (show q < len by omega)
            have hne := hN.2.2 q hqm
            clear hem
            go_wp2_with fail
            go_round
            case rel => exact ⟨q + 1, by omega, by go_num⟩
            case measure => simp [intOf]; omega
          · go_wp2_with fail
            refine (itoa12_all k w6 (by omega)).mono ?_
            rintro e w7 ⟨rfl, hB7⟩
            go_wp2_with fail
            go_ret
            exact ⟨key_same k, below2 hB26 hB7⟩

end Go.Proofs.Qxb6613651aDoor

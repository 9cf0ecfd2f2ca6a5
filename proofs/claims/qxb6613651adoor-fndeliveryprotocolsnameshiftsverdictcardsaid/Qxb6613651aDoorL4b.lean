import Derived.Test.Qxb6613651aDoorL4a
namespace Go.Proofs.Qxb6613651aDoor
open Go.RowKit

set_option maxRecDepth 10000 in
set_option maxHeartbeats 1000000 in
theorem law4_no (ad : Addr) (len cap : Nat) (k : Nat) (x : ByteArray) (F : Nat → ByteArray) (w : World) (hm : len ≤ 65536) (hx0 : x.size ≤ 1048576) (htot : 16 * len + x.size ≤ 1048576) (hk : k ≤ len) (hx : x.toList.isEmpty = false) (hN : NoE F len) (hS : IsStrs w (some ad) len F) (HF : Hid (∀ i, i < len → (F i).size ≤ maxLen)) :
    Calls Tryd.prog 4 #[.slice (some ad) len cap, .int .i64 k, .string x] w fun e w' => e = .returned (.bool true) ∧ Below w.heap.size w w' := by
  obtain ⟨i0, hi, hz0, hz1, hz2⟩ := info_parts Tryd.info9
  have hbytes : Hid (i0.bytes * len ≤ 281474976710656) := by show _ ≤ _; rw [hz2]; omega
  have hmax : Hid (len ≤ maxLen) := by show _ ≤ _; unfold maxLen; omega
  have hxm : Hid (x.size ≤ maxLen) := by show _ ≤ _; unfold maxLen; omega
  have hneq := fun w => run_neq_slice_nil_any (P := Tryd.prog) w 22 9 (some ad) len cap 0 0 Tryd.underlying22
  go_enter Tryd.func4, Tryd.ntmps4
  go_wp2_with (first
    | (go_at_call 13; refine (bytes13 (some ad) len cap k x F _ hmax.out hxm.out hS HF.out).mono ?_; rintro e w' ⟨⟨_ | _, rfl⟩, hw⟩ <;> obtain rfl := hw.symm)
    | (at_make; refine wpList_make_full _ rfl _ _ 22 rfl w.heap.size 9 i0 (.string ⟨#[]⟩) 1 Tryd.underlying22 hi hz0 hz1 _ _ _ _ len rfl rfl (by omega) (by omega) hbytes.out hmax.out (Nat.le_refl _) ?_; intro w1 hown hgrow; have hB1 : Below w.heap.size w w1 := (Below.refl _ _).grown hgrow (Nat.le_refl _) (fun k h => by cases h); have hS1 := isStrs_below hS hB1; have hrow : Hid (w1.heap[w.heap.size]? = _) := own_full hown; have hrl := hown.1; clear hown hgrow)
    | (refine wpList_copy_splice rfl (.tmp 40) (.tmp 41) 22 22 rfl 9 Tryd.underlying22 Tryd.size9 (some ⟨w.heap.size, 0, none⟩) (some ad) len len len cap rfl rfl w.heap.size 0 _ 9 hrow.out (rowOf F len) (by rw [rowOf_length]; simp) (fun _ => ⟨rfl, src_cells hS1⟩) (by rw [rowOf_length, Nat.zero_add, hrl]; omega) (rowOf_one F len) w.heap.size w hB1 (Nat.le_refl _) ?_; intro w2 hg2 hB2; have hS2 := copied (by rw [hrl, Nat.mul_one]) hg2.out; clear hg2))
  · go_ret
    exact ⟨rfl, Below.refl _ _⟩
  · clear hrow hrl hS1 hB1 hneq hbytes
    go_loop [6, 8, 9] (fun r t i => ∃ j z : Nat, j ≤ len ∧ i = .int .i64 j ∧ z ≤ 1048576 ∧ t = .int .i64 z) (fun _ _ i => len - (intOf i).toNat)
    case atStart => exact ⟨0, 16 * len + x.size, Nat.zero_le _, rfl, htot, by go_num⟩
    case round =>
      obtain ⟨j, z, hj, rfl, hz, rfl⟩ := hrel
      by_cases hlt : j < len
      · have hcell := isStrs_at0 hS2 hlt
        have hFj := HF.out j hlt
        unfold maxLen at hFj
        go_wp2
        · go_ret
          exact ⟨rfl, hB2⟩
        · go_ret
          exact ⟨rfl, hB2⟩
        · go_round
          case rel => exact ⟨j + 1, z + (F j).size, by omega, by go_num, by omega, by go_num⟩
          case measure => simp [intOf]; omega
      · go_wp2_with fail
        refine (insert8 _ len len k x F w2 hm hk hS2).mono ?_
        rintro e w3 ⟨g3, c3, rfl, hS3, hB3⟩
        have hS2' := isStrs_below hS2 hB3
        go_wp2_with fail
        refine (chk_none w.heap.size 0 len len F w3 (by omega) hS2' hN).mono ?_
        rintro e w4 ⟨rfl, hB4⟩
        have hS3' := isStrs_below hS3 hB4
        go_wp2_with fail
        refine (chk_none g3 0 (len + 1) c3 (insF F k x) w4 (by omega) hS3' (no_ins hN hk hx)).mono ?_
        rintro e w5 ⟨rfl, hB5⟩
        have hS5 := isStrs_below (isStrs_below hS2' hB4) hB5
        have heq := fun w' => Lib.run_eql_slice_nil (P := Tryd.prog) w' 22 9 (some ⟨w.heap.size, 0, none⟩) len len 0 0 Tryd.underlying22
        go_wp2_with fail
        refine (has_no (some ⟨w.heap.size, 0, none⟩) len len F w5 hm hS5 hN).mono ?_
        rintro e w' ⟨rfl, hw⟩
        obtain rfl := hw.symm
        go_wp2_with fail
        go_ret
        exact ⟨rfl, below2 (below2 (below2 hB2 hB3) hB4) hB5⟩

set_option maxRecDepth 10000 in
set_option maxHeartbeats 1000000 in
theorem law4_lo (ad : Addr) (len cap : Nat) (k : Nat) (m : Nat) (x : ByteArray) (F : Nat → ByteArray) (w : World) (hm : len ≤ 65536) (hx0 : x.size ≤ 1048576) (htot : 16 * len + x.size ≤ 1048576) (hk : k ≤ len) (hx : x.toList.isEmpty = false) (hT : TabOk w) (hN : FirstE F len m) (hmk : m < k) (hS : IsStrs w (some ad) len F) (HF : Hid (∀ i, i < len → (F i).size ≤ maxLen)) :
    Calls Tryd.prog 4 #[.slice (some ad) len cap, .int .i64 k, .string x] w fun e w' => e = .returned (.bool true) ∧ Below w.heap.size w w' := by
  obtain ⟨i0, hi, hz0, hz1, hz2⟩ := info_parts Tryd.info9
  have hbytes : Hid (i0.bytes * len ≤ 281474976710656) := by show _ ≤ _; rw [hz2]; omega
  have hmax : Hid (len ≤ maxLen) := by show _ ≤ _; unfold maxLen; omega
  have hxm : Hid (x.size ≤ maxLen) := by show _ ≤ _; unfold maxLen; omega
  have hneq := fun w => run_neq_slice_nil_any (P := Tryd.prog) w 22 9 (some ad) len cap 0 0 Tryd.underlying22
  go_enter Tryd.func4, Tryd.ntmps4
  go_wp2_with (first
    | (go_at_call 13; refine (bytes13 (some ad) len cap k x F _ hmax.out hxm.out hS HF.out).mono ?_; rintro e w' ⟨⟨_ | _, rfl⟩, hw⟩ <;> obtain rfl := hw.symm)
    | (at_make; refine wpList_make_full _ rfl _ _ 22 rfl w.heap.size 9 i0 (.string ⟨#[]⟩) 1 Tryd.underlying22 hi hz0 hz1 _ _ _ _ len rfl rfl (by omega) (by omega) hbytes.out hmax.out (Nat.le_refl _) ?_; intro w1 hown hgrow; have hB1 : Below w.heap.size w w1 := (Below.refl _ _).grown hgrow (Nat.le_refl _) (fun k h => by cases h); have hS1 := isStrs_below hS hB1; have hrow : Hid (w1.heap[w.heap.size]? = _) := own_full hown; have hrl := hown.1; clear hown hgrow)
    | (refine wpList_copy_splice rfl (.tmp 40) (.tmp 41) 22 22 rfl 9 Tryd.underlying22 Tryd.size9 (some ⟨w.heap.size, 0, none⟩) (some ad) len len len cap rfl rfl w.heap.size 0 _ 9 hrow.out (rowOf F len) (by rw [rowOf_length]; simp) (fun _ => ⟨rfl, src_cells hS1⟩) (by rw [rowOf_length, Nat.zero_add, hrl]; omega) (rowOf_one F len) w.heap.size w hB1 (Nat.le_refl _) ?_; intro w2 hg2 hB2; have hS2 := copied (by rw [hrl, Nat.mul_one]) hg2.out; clear hg2))
  · go_ret
    exact ⟨rfl, Below.refl _ _⟩
  · clear hrow hrl hS1 hB1 hneq hbytes
    go_loop [6, 8, 9] (fun r t i => ∃ j z : Nat, j ≤ len ∧ i = .int .i64 j ∧ z ≤ 1048576 ∧ t = .int .i64 z) (fun _ _ i => len - (intOf i).toNat)
    case atStart => exact ⟨0, 16 * len + x.size, Nat.zero_le _, rfl, htot, by go_num⟩
    case round =>
      obtain ⟨j, z, hj, rfl, hz, rfl⟩ := hrel
      by_cases hlt : j < len
      · have hcell := isStrs_at0 hS2 hlt
        have hFj := HF.out j hlt
        unfold maxLen at hFj
        go_wp2
        · go_ret
          exact ⟨rfl, hB2⟩
        · go_ret
          exact ⟨rfl, hB2⟩
        · go_round
          case rel => exact ⟨j + 1, z + (F j).size, by omega, by go_num, by omega, by go_num⟩
          case measure => simp [intOf]; omega
      · have hT2 := hT.later hB2
        clear hT
        go_wp2_with fail
        refine (insert8 _ len len k x F w2 hm hk hS2).mono ?_
        rintro e w3 ⟨g3, c3, rfl, hS3, hB3⟩
        have hS2' := isStrs_below hS2 hB3
        have hT3 := hT2.later hB3
        go_wp2_with fail
        refine (chk_first (some ⟨w.heap.size, 0, none⟩) len len m F w3 (by omega) hS2' hN (itoaAt hT3 (by have := hN.1; omega))).mono ?_
        rintro e w4 ⟨rfl, hB4⟩
        have hS3' := isStrs_below hS3 hB4
        have hT4 := hT3.later hB4
        go_wp2_with fail
        refine (chk_first (some ⟨g3, 0, none⟩) (len + 1) c3 m (insF F k x) w4 (by omega) hS3' (first_insx_lo hN hk hx hmk) (itoaAt hT4 (by have := hN.1; omega))).mono ?_
        rintro e w5 ⟨rfl, hB5⟩
        have hS5 := isStrs_below (isStrs_below hS2' hB4) hB5
        have heq := fun w' => Lib.run_eql_slice_nil (P := Tryd.prog) w' 22 9 (some ⟨w.heap.size, 0, none⟩) len len 0 0 Tryd.underlying22
        go_wp2_with fail
        refine (has_first (some ⟨w.heap.size, 0, none⟩) len len m F w5 hm hS5 hN).mono ?_
        rintro e w' ⟨rfl, hw⟩
        obtain rfl := hw.symm
        have hml := hN.1
        go_wp2_with fail
        refine (index11 m w5 (by omega)).mono ?_
        rintro e w6 ⟨rfl, hB6⟩
        have hde := dpEmpty_list
        have hsz : (Lib.decDigits m).length ≤ 7 := digits7 (by omega)
        go_wp2_with fail
        refine (itoa12_all m w6 (by omega)).mono ?_
        rintro e w7 ⟨rfl, hB7⟩
        go_wp2_with fail
        go_ret
        exact ⟨key_same m, below2 (below5 hB2 hB3 hB4 hB5 hB6) hB7⟩

set_option maxRecDepth 10000 in
set_option maxHeartbeats 1000000 in
theorem law4_hi (ad : Addr) (len cap : Nat) (k : Nat) (m : Nat) (x : ByteArray) (F : Nat → ByteArray) (w : World) (hm : len ≤ 65536) (hx0 : x.size ≤ 1048576) (htot : 16 * len + x.size ≤ 1048576) (hk : k ≤ len) (hx : x.toList.isEmpty = false) (hT : TabOk w) (hN : FirstE F len m) (hmk : k ≤ m) (hS : IsStrs w (some ad) len F) (HF : Hid (∀ i, i < len → (F i).size ≤ maxLen)) :
    Calls Tryd.prog 4 #[.slice (some ad) len cap, .int .i64 k, .string x] w fun e w' => e = .returned (.bool true) ∧ Below w.heap.size w w' := by
  obtain ⟨i0, hi, hz0, hz1, hz2⟩ := info_parts Tryd.info9
  have hbytes : Hid (i0.bytes * len ≤ 281474976710656) := by show _ ≤ _; rw [hz2]; omega
  have hmax : Hid (len ≤ maxLen) := by show _ ≤ _; unfold maxLen; omega
  have hxm : Hid (x.size ≤ maxLen) := by show _ ≤ _; unfold maxLen; omega
  have hneq := fun w => run_neq_slice_nil_any (P := Tryd.prog) w 22 9 (some ad) len cap 0 0 Tryd.underlying22
  go_enter Tryd.func4, Tryd.ntmps4
  go_wp2_with (first
    | (go_at_call 13; refine (bytes13 (some ad) len cap k x F _ hmax.out hxm.out hS HF.out).mono ?_; rintro e w' ⟨⟨_ | _, rfl⟩, hw⟩ <;> obtain rfl := hw.symm)
    | (at_make; refine wpList_make_full _ rfl _ _ 22 rfl w.heap.size 9 i0 (.string ⟨#[]⟩) 1 Tryd.underlying22 hi hz0 hz1 _ _ _ _ len rfl rfl (by omega) (by omega) hbytes.out hmax.out (Nat.le_refl _) ?_; intro w1 hown hgrow; have hB1 : Below w.heap.size w w1 := (Below.refl _ _).grown hgrow (Nat.le_refl _) (fun k h => by cases h); have hS1 := isStrs_below hS hB1; have hrow : Hid (w1.heap[w.heap.size]? = _) := own_full hown; have hrl := hown.1; clear hown hgrow)
    | (refine wpList_copy_splice rfl (.tmp 40) (.tmp 41) 22 22 rfl 9 Tryd.underlying22 Tryd.size9 (some ⟨w.heap.size, 0, none⟩) (some ad) len len len cap rfl rfl w.heap.size 0 _ 9 hrow.out (rowOf F len) (by rw [rowOf_length]; simp) (fun _ => ⟨rfl, src_cells hS1⟩) (by rw [rowOf_length, Nat.zero_add, hrl]; omega) (rowOf_one F len) w.heap.size w hB1 (Nat.le_refl _) ?_; intro w2 hg2 hB2; have hS2 := copied (by rw [hrl, Nat.mul_one]) hg2.out; clear hg2))
  · go_ret
    exact ⟨rfl, Below.refl _ _⟩
  · clear hrow hrl hS1 hB1 hneq hbytes
    go_loop [6, 8, 9] (fun r t i => ∃ j z : Nat, j ≤ len ∧ i = .int .i64 j ∧ z ≤ 1048576 ∧ t = .int .i64 z) (fun _ _ i => len - (intOf i).toNat)
    case atStart => exact ⟨0, 16 * len + x.size, Nat.zero_le _, rfl, htot, by go_num⟩
    case round =>
      obtain ⟨j, z, hj, rfl, hz, rfl⟩ := hrel
      by_cases hlt : j < len
      · have hcell := isStrs_at0 hS2 hlt
        have hFj := HF.out j hlt
        unfold maxLen at hFj
        go_wp2
        · go_ret
          exact ⟨rfl, hB2⟩
        · go_ret
          exact ⟨rfl, hB2⟩
        · go_round
          case rel => exact ⟨j + 1, z + (F j).size, by omega, by go_num, by omega, by go_num⟩
          case measure => simp [intOf]; omega
      · have hT2 := hT.later hB2
        clear hT
        go_wp2_with fail
        refine (insert8 _ len len k x F w2 hm hk hS2).mono ?_
        rintro e w3 ⟨g3, c3, rfl, hS3, hB3⟩
        have hS2' := isStrs_below hS2 hB3
        have hT3 := hT2.later hB3
        go_wp2_with fail
        refine (chk_first (some ⟨w.heap.size, 0, none⟩) len len m F w3 (by omega) hS2' hN (itoaAt hT3 (by have := hN.1; omega))).mono ?_
        rintro e w4 ⟨rfl, hB4⟩
        have hS3' := isStrs_below hS3 hB4
        have hT4 := hT3.later hB4
        go_wp2_with fail
        refine (chk_first (some ⟨g3, 0, none⟩) (len + 1) c3 (m + 1) (insF F k x) w4 (by omega) hS3' (first_insx_hi hN hk hx hmk) (itoaAt hT4 (by have := hN.1; omega))).mono ?_
        rintro e w5 ⟨rfl, hB5⟩
        have hS5 := isStrs_below (isStrs_below hS2' hB4) hB5
        have heq := fun w' => Lib.run_eql_slice_nil (P := Tryd.prog) w' 22 9 (some ⟨w.heap.size, 0, none⟩) len len 0 0 Tryd.underlying22
        go_wp2_with fail
        refine (has_first (some ⟨w.heap.size, 0, none⟩) len len m F w5 hm hS5 hN).mono ?_
        rintro e w' ⟨rfl, hw⟩
        obtain rfl := hw.symm
        have hml := hN.1
        go_wp2_with fail
        refine (index11 m w5 (by omega)).mono ?_
        rintro e w6 ⟨rfl, hB6⟩
        have hde := dpEmpty_list
        have hsz : (Lib.decDigits (m + 1)).length ≤ 7 := digits7 (by omega)
        go_wp2_with fail
        refine (itoa12_all (m + 1) w6 (by omega)).mono ?_
        rintro e w7 ⟨rfl, hB7⟩
        go_wp2_with fail
        go_ret
        exact ⟨key_same (m + 1), below2 (below5 hB2 hB3 hB4 hB5 hB6) hB7⟩

theorem law4 (a : Option Addr) (len cap : Nat) (k : Int) (x : ByteArray) (F : Nat → ByteArray) (w : World) (hnil : a = none → len = 0 ∧ cap = 0) (hm : len ≤ maxLen) (hxm : x.size ≤ maxLen) (hS : IsStrs w a len F) (hF : ∀ i, i < len → (F i).size ≤ maxLen) (hT : TabOk w) :
    Calls Tryd.prog 4 #[.slice a len cap, .int .i64 k, .string x] w fun e w' => e = .returned (.bool true) ∧ Below w.heap.size w w' := by
  by_cases hb : 65536 < len
  · exact law4_big a len cap k x F w (.inl hb) hm hxm hS hF
  have hl : len ≤ 65536 := by omega
  by_cases hb2 : 1048576 < x.size
  · exact law4_big a len cap k x F w (.inr ⟨hl, hb2⟩) hm hxm hS hF
  have hx0 : x.size ≤ 1048576 := by omega
  cases a with
  | none =>
    obtain ⟨rfl, rfl⟩ := hnil rfl
    exact law4_nil k x w hx0
  | some ad =>
    by_cases htot : 16 * len + x.size ≤ 1048576
    · by_cases ho : k < 0 ∨ (len : Int) < k
      · exact law4_out ad len cap k x F w hl hx0 htot ho hS hF
      obtain ⟨kn, rfl⟩ : ∃ kn : Nat, k = kn := ⟨k.toNat, by omega⟩
      have hk : kn ≤ len := by omega
      cases hx : x.toList.isEmpty
      · rcases first_or_no F len with h | ⟨m, h⟩
        · exact law4_no ad len cap kn x F w hl hx0 htot hk hx h hS hF
        · by_cases hmk : m < kn
          · exact law4_lo ad len cap kn m x F w hl hx0 htot hk hx hT h hmk hS hF
          · exact law4_hi ad len cap kn m x F w hl hx0 htot hk hx hT h (by omega) hS hF
      · exact law4_xe ad len cap kn x F w hl hx0 htot hk hx hS hF
    · exact law4_tot ad len cap k x F w hl hx0 htot hS hF
end Go.Proofs.Qxb6613651aDoor

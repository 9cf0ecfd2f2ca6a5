import Derived.Test.Qxb6613651aDoorL3a
namespace Go.Proofs.Qxb6613651aDoor
open Go.RowKit

set_option maxRecDepth 10000 in
set_option maxHeartbeats 1000000 in
theorem law3_out (ad : Addr) (len cap : Nat) (k : Int) (F : Nat → ByteArray) (w : World) (hm : len ≤ 65536) (hk : k < 0 ∨ (len : Int) < k) (hS : IsStrs w (some ad) len F) (HF : Hid (∀ i, i < len → (F i).size ≤ maxLen)) :
    Calls Tryd.prog 3 #[.slice (some ad) len cap, .int .i64 k] w fun e w' => e = .returned (.bool true) ∧ Below w.heap.size w w' := by
  obtain ⟨i0, hi, hz0, hz1, hz2⟩ := info_parts Tryd.info9
  have hbytes : Hid (i0.bytes * len ≤ 281474976710656) := by show _ ≤ _; rw [hz2]; omega
  have hmax : Hid (len ≤ maxLen) := by show _ ≤ _; unfold maxLen; omega
  have hneq := fun w => run_neq_slice_nil_any (P := Tryd.prog) w 22 9 (some ad) len cap 0 0 Tryd.underlying22
  go_enter Tryd.func3, Tryd.ntmps3
  go_wp2_with (first
    | (go_at_call 7; refine (bytes7 (some ad) len cap k F _ hmax.out hS HF.out).mono ?_; rintro e w' ⟨⟨_ | _, rfl⟩, hw⟩ <;> obtain rfl := hw.symm)
    | (at_make; refine wpList_make_full _ rfl _ _ 22 rfl w.heap.size 9 i0 (.string ⟨#[]⟩) 1 Tryd.underlying22 hi hz0 hz1 _ _ _ _ len rfl rfl (by omega) (by omega) hbytes.out hmax.out (Nat.le_refl _) ?_; intro w1 hown hgrow; have hB1 : Below w.heap.size w w1 := (Below.refl _ _).grown hgrow (Nat.le_refl _) (fun k h => by cases h); have hS1 := isStrs_below hS hB1; have hrow : Hid (w1.heap[w.heap.size]? = _) := own_full hown; have hrl := hown.1; clear hown hgrow)
    | (refine wpList_copy_splice rfl (.tmp 33) (.tmp 34) 22 22 rfl 9 Tryd.underlying22 Tryd.size9 (some ⟨w.heap.size, 0, none⟩) (some ad) len len len cap rfl rfl w.heap.size 0 _ 9 hrow.out (rowOf F len) (by rw [rowOf_length]; simp) (fun _ => ⟨rfl, src_cells hS1⟩) (by rw [rowOf_length, Nat.zero_add, hrl]; omega) (rowOf_one F len) w.heap.size w hB1 (Nat.le_refl _) ?_; intro w2 hg2 hB2; have hS2 := copied (by rw [hrl, Nat.mul_one]) hg2.out; clear hg2))
  · go_ret
    exact ⟨rfl, Below.refl _ _⟩
  · clear hrow hrl hS1 hB1 hneq hbytes hS
    go_loop [4, 6, 7] (fun r t i => ∃ j z : Nat, j ≤ len ∧ i = .int .i64 j ∧ z ≤ 1048576 ∧ t = .int .i64 z) (fun _ _ i => len - (intOf i).toNat)
    case atStart => exact ⟨0, 16 * len, Nat.zero_le _, rfl, by omega, by go_num⟩
    case round =>
      obtain ⟨j, z, hj, rfl, hz, rfl⟩ := hrel
      by_cases hlt : j < len
      · have hcell := isStrs_at0 hS2 hlt
        have hFj := HF.out j hlt
        unfold maxLen at hFj
        go_wp2
        · go_ret
          exact ⟨rfl, hB2⟩
        · go_ret
          exact ⟨rfl, hB2⟩
        · go_round
          case rel => exact ⟨j + 1, z + (F j).size, by omega, by go_num, by omega, by go_num⟩
          case measure => simp [intOf]; omega
      · rcases hk with hk | hk
        · go_wp2_with fail
          go_ret
          exact ⟨rfl, hB2⟩
        · by_cases hk0 : k < 0
          · omega
          · go_wp2_with fail
            go_ret
            exact ⟨rfl, hB2⟩

set_option maxRecDepth 10000 in
set_option maxHeartbeats 1000000 in
theorem law3_big (a : Option Addr) (len cap : Nat) (k : Int) (F : Nat → ByteArray) (w : World) (hm : 65536 < len) (HM : Hid (len ≤ maxLen)) (hS : IsStrs w a len F) (HF : Hid (∀ i, i < len → (F i).size ≤ maxLen)) :
    Calls Tryd.prog 3 #[.slice a len cap, .int .i64 k] w fun e w' => e = .returned (.bool true) ∧ Below w.heap.size w w' := by
  go_enter Tryd.func3, Tryd.ntmps3
  go_wp2_with (go_at_call 7; refine (bytes7 a len cap k F _ HM.out hS HF.out).mono ?_; rintro e w' ⟨⟨_ | _, rfl⟩, hw⟩ <;> obtain rfl := hw.symm)
  all_goals
    go_ret
    exact ⟨rfl, Below.refl _ _⟩

set_option maxRecDepth 10000 in
set_option maxHeartbeats 1000000 in
theorem law3_nil (k : Int) (w : World) (hT : TabOk w) :
    Calls Tryd.prog 3 #[.slice none 0 0, .int .i64 k] w fun e w' => e = .returned (.bool true) ∧ Below w.heap.size w w' := by
  have hS : IsStrs w none 0 (fun _ => e0) := fun i hi => absurd hi (by omega)
  have HF : Hid (∀ i, i < 0 → ((fun _ => e0) i).size ≤ maxLen) := fun i hi => absurd hi (by omega)
  have hneq := fun w => run_neq_slice_nil_any (P := Tryd.prog) w 22 9 none 0 0 0 0 Tryd.underlying22
  have heq := fun w' => Lib.run_eql_slice_nil (P := Tryd.prog) w' 22 9 none 0 0 0 0 Tryd.underlying22
  go_enter Tryd.func3, Tryd.ntmps3
  go_wp2_with (go_at_call 7; refine (bytes7 none 0 0 k (fun _ => e0) _ (Nat.zero_le _) hS HF.out).mono ?_; rintro e w' ⟨⟨_ | _, rfl⟩, hw⟩ <;> obtain rfl := hw.symm)
  · go_ret
    exact ⟨rfl, Below.refl _ _⟩
  · refine wp_loop_rounds 1 ?_
    rw [rounds_succ]
    rcases (show k < 0 ∨ k = 0 ∨ (¬ k < 0 ∧ 0 < k) by omega) with hk | hk | ⟨hk0, hk⟩
    · go_wp2_with fail
      go_ret
      exact ⟨rfl, Below.refl _ _⟩
    · subst hk
      go_wp2_with fail
      refine (insert8 none 0 0 0 e0 (fun _ => e0) w (by omega) (Nat.le_refl _) hS).mono ?_
      rintro e w3 ⟨g3, c3, rfl, hS3, hB3⟩
      go_wp2_with fail
      refine (chk_nil w3).mono ?_
      rintro e w4 ⟨rfl, hB4⟩
      have hS3' := isStrs_below hS3 hB4
      have hT4 := (hT.later hB3).later hB4
      go_wp2_with fail
      refine (chk_first (some ⟨g3, 0, none⟩) (0 + 1) c3 0 (insF (fun _ => e0) 0 e0) w4 (by omega) hS3' (first_ins_no (fun i hi => absurd hi (by omega)) (Nat.le_refl _)) (itoaAt hT4 (by omega))).mono ?_
      rintro e w5 ⟨rfl, hB5⟩
      have hde := dpEmpty_list
      have hdk := dpKey_list
      have hdm := dpMissing_list
      have hsz : (Lib.decDigits 0).length ≤ 7 := digits7 (by omega)
      go_wp2_with fail
      refine (itoa12_all 0 w5 (by omega)).mono ?_
      rintro e w6 ⟨rfl, hB6⟩
      go_wp2_with fail
      go_ret
      exact ⟨key_same 0, below2 (below2 (below2 hB3 hB4) hB5) hB6⟩
    · go_wp2_with fail
      go_ret
      exact ⟨rfl, Below.refl _ _⟩

theorem law3 (a : Option Addr) (len cap : Nat) (k : Int) (F : Nat → ByteArray) (w : World) (hnil : a = none → len = 0 ∧ cap = 0) (hm : len ≤ maxLen) (hS : IsStrs w a len F) (hF : ∀ i, i < len → (F i).size ≤ maxLen) (hT : TabOk w) :
    Calls Tryd.prog 3 #[.slice a len cap, .int .i64 k] w fun e w' => e = .returned (.bool true) ∧ Below w.heap.size w w' := by
  cases a with
  | none =>
    obtain ⟨rfl, rfl⟩ := hnil rfl
    exact law3_nil k w hT
  | some ad =>
    by_cases hb : 65536 < len
    · exact law3_big (some ad) len cap k F w hb hm hS hF
    have hl : len ≤ 65536 := by omega
    by_cases ho : k < 0 ∨ (len : Int) < k
    · exact law3_out ad len cap k F w hl ho hS hF
    obtain ⟨kn, rfl⟩ : ∃ kn : Nat, k = kn := ⟨k.toNat, by omega⟩
    have hk : kn ≤ len := by omega
    rcases first_or_no F len with h | ⟨m, h⟩
    · exact law3_no ad len cap kn F w hl hk hS hF hT h
    · by_cases hmk : m < kn
      · exact law3_lo ad len cap kn m F w hl hk hS hF hT h hmk
      · exact law3_hi ad len cap kn m F w hl hk hS hF hT h (by omega)
end Go.Proofs.Qxb6613651aDoor

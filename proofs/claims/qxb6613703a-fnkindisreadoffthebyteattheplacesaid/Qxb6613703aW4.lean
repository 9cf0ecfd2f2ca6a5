import Derived.Test.Qxb6613703aW3
namespace Go.Proofs.Qxb6613703a
open Go.RowKit

set_option maxRecDepth 10000 in
set_option maxHeartbeats 1000000 in
theorem law_end (ad : Addr) (len cap : Nat) (G : Nat → Nat) (w : World) (hm : len ≤ 1048576) (hS : IsBytes w (some ad) len G) :
    Calls Try.prog 5 #[.slice (some ad) len cap, .int .i64 len] w fun e w' => e = .returned (.bool true) ∧ Below w.heap.size w w' := by
  obtain ⟨i0, hi, hz0, hz1, hz2⟩ := info_parts Try.info5
  have hbytes : Hid (i0.bytes * len ≤ 281474976710656) := by show _ ≤ _; rw [hz2]; omega
  have hmax : Hid (len ≤ maxLen) := by show _ ≤ _; unfold maxLen; omega
  have hbytes1 : Hid (i0.bytes * (len + 1) ≤ 281474976710656) := by show _ ≤ _; rw [hz2]; omega
  have hmax1 : Hid (len + 1 ≤ maxLen) := by show _ ≤ _; unfold maxLen; omega
  have hneq := fun w => run_neq_slice_nil_any (P := Try.prog) w 27 5 (some ad) len cap 0 0 Try.underlying27
  go_enter Try.func5, Try.ntmps5
  go_wp2_with (first
    | (go_at_call 8; go_in)
    | (at_make; refine wpList_make_full _ rfl _ _ 27 rfl w.heap.size 5 i0 (.int .u8 0) 1 Try.underlying27 hi hz0 hz1 _ _ _ _ len rfl rfl (by omega) (by omega) hbytes.out hmax.out (Nat.le_refl _) ?_; intro w1 hown hgrow; have hB1 : Below w.heap.size w w1 := (Below.refl _ _).grown hgrow (Nat.le_refl _) (fun k h => by cases h); have hS1 := isBytes_below hS hB1; have hrow : Hid (w1.heap[w.heap.size]? = _) := own_full hown; have hrl := hown.1; clear hown hgrow)
    | (refine wpList_copy_splice rfl (.tmp 32) (.tmp 33) 27 27 rfl 5 Try.underlying27 Try.size5 (some ⟨w.heap.size, 0, none⟩) (some ad) len len len cap rfl rfl w.heap.size 0 _ 5 hrow.out (rowB G len) (by rw [rowB_length]; simp) (fun hp => ⟨rfl, src_cells hS1 hp⟩) (by rw [rowB_length, Nat.zero_add, hrl]; omega) (rowB_one G len) w.heap.size w hB1 (Nat.le_refl _) ?_; intro w2 hg2 hB2; have hS2 := copied (by rw [hrl, Nat.mul_one]) hg2.out; clear hg2))
  refine (dec_out (some ⟨w.heap.size, 0, none⟩) len len len w2 (Nat.le_refl _) (by omega)).mono ?_
  rintro e w4 ⟨rfl, hB4⟩
  have HS4 : Hid (IsBytes w4 (some ⟨w.heap.size, 0, none⟩) len G) := isBytes_below hS2 hB4
  have HB24 : Hid (Below w.heap.size w w4) := hB2.trans (hB4.mono hB2.size)
  clear hB4 hB2 hneq hrow hrl hS1 hB1 hS hS2
  go_wp2_with (first
    | (at_make; refine wpList_make_full _ rfl _ _ 27 rfl w4.heap.size 5 i0 (.int .u8 0) 1 Try.underlying27 hi hz0 hz1 _ _ _ _ (len + 1) rfl rfl (by omega) (by omega) hbytes1.out hmax1.out (Nat.le_refl _) ?_; intro w5 hown hgrow; have hB5 : Below w4.heap.size w4 w5 := (Below.refl _ _).grown hgrow (Nat.le_refl _) (fun k h => by cases h); have hS5 := isBytes_below HS4.out hB5; have hrow5 : Hid (w5.heap[w4.heap.size]? = _) := own_full hown; have hrl5 := hown.1; clear hown hgrow)
    | (refine wpList_copy_splice rfl (.tmp 69) (.tmp 70) 27 27 rfl 5 Try.underlying27 Try.size5 (some ⟨w4.heap.size, 0, none⟩) (some ⟨w.heap.size, 0, none⟩) (len + 1) (len + 1) len len rfl rfl w4.heap.size 0 _ 5 hrow5.out (rowB G len) (by rw [rowB_length]; simp) (fun hp => ⟨rfl, src_cells hS5 hp⟩) (by rw [rowB_length, Nat.zero_add, hrl5]; omega) (rowB_one G len) w4.heap.size w4 hB5 (Nat.le_refl _) ?_; intro w6 hg6 hB6; have hR6 := byteRow_splice (Nat.le_succ _) hg6.out; clear hg6))
  have hST : w.heap.size ≤ w4.heap.size := HB24.out.size
  have hlt6 : w4.heap.size < w6.heap.size := lt_of_cell (hR6 len (by omega)).1.choose_spec
  have HB6' : Hid (Below w.heap.size w w6) := HB24.out.trans (hB6.mono hST)
  have hK0 := KRel.start hR6 (show len < len + 1 by omega) hlt6
  clear hrow5 hrl5 hS5 hB5 hB6 hR6 HS4 HB24 hbytes1 hmax1
  go_loopw [4, 10, 11] (fun r i kx wr => ∃ b : Nat, b ≤ 256 ∧ i = .int .i64 b ∧ KRel w6 wr w4.heap.size w6.heap.size len b) (fun _ i _ _ => 256 - (intOf i).toNat)
  case atStart => exact ⟨0, by omega, rfl, hK0⟩
  case round =>
    obtain ⟨b, hb, rfl, hK⟩ := hrel
    by_cases hlt : b < 256
    · obtain ⟨v, hv⟩ := hK.text
      have hf := hK.tfroz
      go_wp2_with fail
      refine (dec_in w4.heap.size 0 (len + 1) (len + 1) len b _ (by omega) (by omega) (hK.stored b)).mono ?_
      rintro e wb ⟨rfl, hBb⟩
      obtain ⟨q, hq⟩ : ∃ q, Hid (q = kindN b) := ⟨_, rfl⟩
      rw [← hq.out]
      have hq6 : q ≤ 6 := by rw [hq.out]; exact kindN_le b
      obtain ⟨hcq, hfq⟩ := hK.cnt_later hBb q (by omega)
      have hcb := cnt_le q b
      have HKn : Hid (KRel w6 (wb.setCell ⟨w6.heap.size, q, none⟩ (.int .i64 ((cnt q b : Int) + 1))) w4.heap.size w6.heap.size len (b + 1)) := hK.step hBb hq.out
      clear hv hf hK hBb hK0
      generalize cnt q b = cq at *
      go_wp2_with fail
      go_roundw
      case rel => exact ⟨b + 1, by omega, by go_num, HKn.out⟩
      case measure => simp [intOf]; omega
    · obtain rfl : b = 256 := by omega
      obtain ⟨e0, e1, e2, e3, e4, e5, e6⟩ := cnt_all
      have c0 := hK.cnts 0 (by omega)
      have c1 := hK.cnts 1 (by omega)
      have c2 := hK.cnts 2 (by omega)
      have c3 := hK.cnts 3 (by omega)
      have c4 := hK.cnts 4 (by omega)
      have c5 := hK.cnts 5 (by omega)
      have c6 := hK.cnts 6 (by omega)
      rw [e0] at c0
      rw [e1] at c1
      rw [e2] at c2
      rw [e3] at c3
      rw [e4] at c4
      rw [e5] at c5
      rw [e6] at c6
      clear e0 e1 e2 e3 e4 e5 e6
      have heqA := eq_counts
      go_wp2_with fail
      go_ret
      exact ⟨rfl, HB6'.out.trans (hK.bel.mono hST)⟩

set_option maxRecDepth 10000 in
set_option maxHeartbeats 1000000 in
theorem law_nil (w : World) :
    Calls Try.prog 5 #[.slice none 0 0, .int .i64 0] w fun e w' => e = .returned (.bool true) ∧ Below w.heap.size w w' := by
  obtain ⟨i0, hi, hz0, hz1, hz2⟩ := info_parts Try.info5
  have hbytes1 : Hid (i0.bytes * (0 + 1) ≤ 281474976710656) := by show _ ≤ _; rw [hz2]; omega
  have hmax1 : Hid (0 + 1 ≤ maxLen) := by show _ ≤ _; unfold maxLen; omega
  have hneq := fun w => run_neq_slice_nil_any (P := Try.prog) w 27 5 none 0 0 0 0 Try.underlying27
  obtain ⟨G, hS⟩ : ∃ G : Nat → Nat, IsBytes w none 0 G := ⟨fun _ => 0, fun i hi => absurd hi (by omega)⟩
  go_enter Try.func5, Try.ntmps5
  go_wp2_with (go_at_call 8; go_in)
  refine (dec_out none 0 0 0 w (Nat.le_refl _) (by omega)).mono ?_
  rintro e w4 ⟨rfl, hB4⟩
  have HS4 : Hid (IsBytes w4 none 0 G) := isBytes_below hS hB4
  have HB24 : Hid (Below w.heap.size w w4) := (Below.refl w.heap.size w).trans (hB4.mono (Below.refl w.heap.size w).size)
  clear hB4 hneq hS
  go_wp2_with (first
    | (at_make; refine wpList_make_full _ rfl _ _ 27 rfl w4.heap.size 5 i0 (.int .u8 0) 1 Try.underlying27 hi hz0 hz1 _ _ _ _ (0 + 1) rfl rfl (by omega) (by omega) hbytes1.out hmax1.out (Nat.le_refl _) ?_; intro w5 hown hgrow; have hB5 : Below w4.heap.size w4 w5 := (Below.refl _ _).grown hgrow (Nat.le_refl _) (fun k h => by cases h); have hS5 := isBytes_below HS4.out hB5; have hrow5 : Hid (w5.heap[w4.heap.size]? = _) := own_full hown; have hrl5 := hown.1; clear hown hgrow)
    | (refine wpList_copy_splice rfl (.tmp 69) (.tmp 70) 27 27 rfl 5 Try.underlying27 Try.size5 (some ⟨w4.heap.size, 0, none⟩) none (0 + 1) (0 + 1) 0 0 rfl rfl w4.heap.size 0 _ 5 hrow5.out (rowB G 0) (by rw [rowB_length]; simp) (fun hp => ⟨rfl, src_cells hS5 hp⟩) (by rw [rowB_length, Nat.zero_add, hrl5]; omega) (rowB_one G 0) w4.heap.size w4 hB5 (Nat.le_refl _) ?_; intro w6 hg6 hB6; have hR6 := byteRow_splice (Nat.le_succ _) hg6.out; clear hg6))
  have hST : w.heap.size ≤ w4.heap.size := HB24.out.size
  have hlt6 : w4.heap.size < w6.heap.size := lt_of_cell (hR6 0 (by omega)).1.choose_spec
  have HB6' : Hid (Below w.heap.size w w6) := HB24.out.trans (hB6.mono hST)
  have hK0 := KRel.start hR6 (show 0 < 0 + 1 by omega) hlt6
  clear hrow5 hrl5 hS5 hB5 hB6 hR6 HS4 HB24 hbytes1 hmax1
  go_loopw [4, 10, 11] (fun r i kx wr => ∃ b : Nat, b ≤ 256 ∧ i = .int .i64 b ∧ KRel w6 wr w4.heap.size w6.heap.size 0 b) (fun _ i _ _ => 256 - (intOf i).toNat)
  case atStart => exact ⟨0, by omega, rfl, hK0⟩
  case round =>
    obtain ⟨b, hb, rfl, hK⟩ := hrel
    by_cases hlt : b < 256
    · obtain ⟨v, hv⟩ := hK.text
      have hf := hK.tfroz
      go_wp2_with fail
      refine (dec_in w4.heap.size 0 (0 + 1) (0 + 1) 0 b _ (by omega) (by omega) (hK.stored b)).mono ?_
      rintro e wb ⟨rfl, hBb⟩
      obtain ⟨q, hq⟩ : ∃ q, Hid (q = kindN b) := ⟨_, rfl⟩
      rw [← hq.out]
      have hq6 : q ≤ 6 := by rw [hq.out]; exact kindN_le b
      obtain ⟨hcq, hfq⟩ := hK.cnt_later hBb q (by omega)
      have hcb := cnt_le q b
      have HKn : Hid (KRel w6 (wb.setCell ⟨w6.heap.size, q, none⟩ (.int .i64 ((cnt q b : Int) + 1))) w4.heap.size w6.heap.size 0 (b + 1)) := hK.step hBb hq.out
      clear hv hf hK hBb hK0
      generalize cnt q b = cq at *
      go_wp2_with fail
      go_roundw
      case rel => exact ⟨b + 1, by omega, by go_num, HKn.out⟩
      case measure => simp [intOf]; omega
    · obtain rfl : b = 256 := by omega
      obtain ⟨e0, e1, e2, e3, e4, e5, e6⟩ := cnt_all
      have c0 := hK.cnts 0 (by omega)
      have c1 := hK.cnts 1 (by omega)
      have c2 := hK.cnts 2 (by omega)
      have c3 := hK.cnts 3 (by omega)
      have c4 := hK.cnts 4 (by omega)
      have c5 := hK.cnts 5 (by omega)
      have c6 := hK.cnts 6 (by omega)
      rw [e0] at c0
      rw [e1] at c1
      rw [e2] at c2
      rw [e3] at c3
      rw [e4] at c4
      rw [e5] at c5
      rw [e6] at c6
      clear e0 e1 e2 e3 e4 e5 e6
      have heqA := eq_counts
      go_wp2_with fail
      go_ret
      exact ⟨rfl, HB6'.out.trans (hK.bel.mono hST)⟩

set_option maxRecDepth 10000 in
set_option maxHeartbeats 1000000 in
theorem law_out (a : Option Addr) (len cap : Nat) (at_ : Int) (w : World) (hm : len ≤ 1048576) (hat : at_ < 0 ∨ (len : Int) < at_) :
    Calls Try.prog 5 #[.slice a len cap, .int .i64 at_] w fun e w' => e = .returned (.bool true) ∧ Below w.heap.size w w' := by
  rcases (show at_ < 0 ∨ (¬ at_ < 0 ∧ (len : Int) < at_) by omega) with h | ⟨h0, h⟩
  all_goals
    go_enter Try.func5, Try.ntmps5
    go_wp2_with (go_at_call 8; go_in)
    go_ret
    exact ⟨rfl, Below.refl _ _⟩

set_option maxRecDepth 10000 in
set_option maxHeartbeats 1000000 in
theorem law_big (a : Option Addr) (len cap : Nat) (at_ : Int) (w : World) (hm : 1048576 < len) (hlm : len ≤ 9223372036854775807) :
    Calls Try.prog 5 #[.slice a len cap, .int .i64 at_] w fun e w' => e = .returned (.bool true) ∧ Below w.heap.size w w' := by
  go_enter Try.func5, Try.ntmps5
  go_wp2_with (go_at_call 8; go_in)
  go_ret
  exact ⟨rfl, Below.refl _ _⟩

theorem law (a : Option Addr) (len cap : Nat) (at_ : Int) (G : Nat → Nat) (w : World) (hnil : a = none → len = 0 ∧ cap = 0) (hlm : len ≤ maxLen) (hS : IsBytes w a len G) :
    Calls Try.prog 5 #[.slice a len cap, .int .i64 at_] w fun e w' => e = .returned (.bool true) ∧ Below w.heap.size w w' := by
  by_cases hb : 1048576 < len
  · exact law_big a len cap at_ w hb (by unfold maxLen at hlm; omega)
  have hm : len ≤ 1048576 := by omega
  by_cases ho : at_ < 0 ∨ (len : Int) < at_
  · exact law_out a len cap at_ w hm ho
  obtain ⟨n, rfl⟩ : ∃ n : Nat, at_ = n := ⟨at_.toNat, by omega⟩
  cases a with
  | none =>
    obtain ⟨rfl, rfl⟩ := hnil rfl
    obtain rfl : n = 0 := by omega
    exact law_nil w
  | some ad =>
    by_cases he : n = len
    · subst he
      exact law_end ad n cap G w hm hS
    · exact law_in ad len cap n G w hm (by omega) hS
end Go.Proofs.Qxb6613703a

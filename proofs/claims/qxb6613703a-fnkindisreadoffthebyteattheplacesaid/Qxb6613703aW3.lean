import Derived.Test.Qxb6613703aW2
namespace Go.Proofs.Qxb6613703a
open Go.RowKit

theorem eq_counts (w : World) : (binOp .eql 31 (.agg #[.int .i64 239, .int .i64 1, .int .i64 2, .int .i64 11, .int .i64 1, .int .i64 1, .int .i64 1]) (.agg #[.int .i64 239, .int .i64 1, .int .i64 2, .int .i64 11, .int .i64 1, .int .i64 1, .int .i64 1])).run Try.prog w = .ok (.bool true) w := by kernel_rfl

theorem KRel.start {w6 : World} {T room at_ : Nat} (hR : ByteRow w6 T room) (hat : at_ < room) (hlt : T < w6.heap.size) :
    KRel w6 (w6.alloc (.cells #[.int .i64 0, .int .i64 0, .int .i64 0, .int .i64 0, .int .i64 0, .int .i64 0, .int .i64 0] 31)) T w6.heap.size at_ 0 := by
  obtain ⟨⟨v, hv⟩, hf⟩ := hR at_ hat
  have hb := (Below.refl w6.heap.size w6).alloc (Nat.le_refl _) (.cells #[.int .i64 0, .int .i64 0, .int .i64 0, .int .i64 0, .int .i64 0, .int .i64 0, .int .i64 0] 31)
  refine ⟨⟨v, cell_later hb hv⟩, (hb.frozen (p := ⟨T, at_, none⟩) hlt).trans hf, fun j hj => ?_, fun j hj => World.frozen?_alloc_new _ _ _ _, hb.mono (Nat.le_of_lt hlt), hlt⟩
  rw [World.cell?_alloc_new]
  match j, hj with
  | 0, _ | 1, _ | 2, _ | 3, _ | 4, _ | 5, _ | 6, _ => rfl
  | n + 7, h => exact absurd h (by omega)

set_option maxRecDepth 10000 in
set_option maxHeartbeats 1000000 in
theorem law_in (ad : Addr) (len cap at_ : Nat) (G : Nat → Nat) (w : World) (hm : len ≤ 1048576) (hat : at_ < len) (hS : IsBytes w (some ad) len G) :
    Calls Try.prog 5 #[.slice (some ad) len cap, .int .i64 at_] w fun e w' => e = .returned (.bool true) ∧ Below w.heap.size w w' := by
  obtain ⟨i0, hi, hz0, hz1, hz2⟩ := info_parts Try.info5
  have hbytes : Hid (i0.bytes * len ≤ 281474976710656) := by show _ ≤ _; rw [hz2]; omega
  have hmax : Hid (len ≤ maxLen) := by show _ ≤ _; unfold maxLen; omega
  have hneq := fun w => run_neq_slice_nil_any (P := Try.prog) w 27 5 (some ad) len cap 0 0 Try.underlying27
  go_enter Try.func5, Try.ntmps5
  go_wp2_with (first
    | (go_at_call 8; go_in)
    | (at_make; refine wpList_make_full _ rfl _ _ 27 rfl w.heap.size 5 i0 (.int .u8 0) 1 Try.underlying27 hi hz0 hz1 _ _ _ _ len rfl rfl (by omega) (by omega) hbytes.out hmax.out (Nat.le_refl _) ?_; intro w1 hown hgrow; have hB1 : Below w.heap.size w w1 := (Below.refl _ _).grown hgrow (Nat.le_refl _) (fun k h => by cases h); have hS1 := isBytes_below hS hB1; have hrow : Hid (w1.heap[w.heap.size]? = _) := own_full hown; have hrl := hown.1; clear hown hgrow)
    | (refine wpList_copy_splice rfl (.tmp 32) (.tmp 33) 27 27 rfl 5 Try.underlying27 Try.size5 (some ⟨w.heap.size, 0, none⟩) (some ad) len len len cap rfl rfl w.heap.size 0 _ 5 hrow.out (rowB G len) (by rw [rowB_length]; simp) (fun hp => ⟨rfl, src_cells hS1 hp⟩) (by rw [rowB_length, Nat.zero_add, hrl]; omega) (rowB_one G len) w.heap.size w hB1 (Nat.le_refl _) ?_; intro w2 hg2 hB2; have hS2 := copied (by rw [hrl, Nat.mul_one]) hg2.out; clear hg2))
  have hcat : w2.cell? ⟨w.heap.size, 0 + at_, none⟩ = some (.int .u8 (G at_)) := by rw [Nat.zero_add]; exact isBytes_at0 hS2 hat
  refine (dec_in w.heap.size 0 len len at_ (G at_) w2 hat (by omega) hcat).mono ?_
  rintro e w3 ⟨rfl, hB3⟩
  have hcat3 := cell_later hB3 hcat
  have HB3 : Hid (Below w2.heap.size w2 w3) := hB3
  have HB2 : Hid (Below w.heap.size w w2) := hB2
  clear hB3 hB2 hcat hneq hrow hrl hS1 hB1 hS
  have hatl : ((at_ : Int) == (len : Int)) = false := by simp; omega
  obtain ⟨kk, HKK⟩ : ∃ kk, Hid (kindN (G at_) = kk) := ⟨_, rfl⟩
  have hd0 : Calls Try.prog 9 #[.slice (some ⟨w.heap.size, at_, none⟩) (len - at_) (len - at_), .int .i64 0] w3 fun e w' => e = .returned (.int .u8 kk) ∧ Below w3.heap.size w3 w' := by
    have := dec_in w.heap.size at_ (len - at_) (len - at_) 0 (G at_) w3 (by omega) (by omega) (by rw [Nat.add_zero]; rw [Nat.zero_add] at hcat3; exact hcat3)
    rw [HKK.out] at this
    exact this
  rw [HKK.out]
  have HD0 : Hid (Calls Try.prog 9 #[.slice (some ⟨w.heap.size, at_, none⟩) (len - at_) (len - at_), .int .i64 0] w3 fun e w' => e = .returned (.int .u8 kk) ∧ Below w3.heap.size w3 w') := hd0
  clear hd0
  go_wp2_with fail
  refine HD0.out.mono ?_
  rintro e w4 ⟨rfl, hB4⟩
  have HS4 : Hid (IsBytes w4 (some ⟨w.heap.size, 0, none⟩) len G) := isBytes_below (isBytes_below hS2 HB3.out) hB4
  have HB24 : Hid (Below w.heap.size w w4) := (HB2.out.trans (HB3.out.mono HB2.out.size)).trans (hB4.mono (Nat.le_trans HB2.out.size HB3.out.size))
  clear HD0 hB4 HB3 HB2 hS2 hcat3
  go_wp2_with (first
    | (at_make; refine wpList_make_full _ rfl _ _ 27 rfl w4.heap.size 5 i0 (.int .u8 0) 1 Try.underlying27 hi hz0 hz1 _ _ _ _ len rfl rfl (by omega) (by omega) hbytes.out hmax.out (Nat.le_refl _) ?_; intro w5 hown hgrow; have hB5 : Below w4.heap.size w4 w5 := (Below.refl _ _).grown hgrow (Nat.le_refl _) (fun k h => by cases h); have hS5 := isBytes_below HS4.out hB5; have hrow5 : Hid (w5.heap[w4.heap.size]? = _) := own_full hown; have hrl5 := hown.1; clear hown hgrow)
    | (refine wpList_copy_splice rfl (.tmp 69) (.tmp 70) 27 27 rfl 5 Try.underlying27 Try.size5 (some ⟨w4.heap.size, 0, none⟩) (some ⟨w.heap.size, 0, none⟩) len len len len rfl rfl w4.heap.size 0 _ 5 hrow5.out (rowB G len) (by rw [rowB_length]; simp) (fun hp => ⟨rfl, src_cells hS5 hp⟩) (by rw [rowB_length, Nat.zero_add, hrl5]; omega) (rowB_one G len) w4.heap.size w4 hB5 (Nat.le_refl _) ?_; intro w6 hg6 hB6; have hR6 := byteRow_splice (Nat.le_refl _) hg6.out; clear hg6))
  have hST : w.heap.size < w4.heap.size := lt_of_cell (isBytes_at0 HS4.out hat)
  have hlt6 : w4.heap.size < w6.heap.size := lt_of_cell (hR6 at_ hat).1.choose_spec
  have HB6' : Hid (Below w.heap.size w w6) := HB24.out.trans (hB6.mono (Nat.le_of_lt hST))
  have hdat0 : Hid (w6.cell? ⟨w.heap.size, at_, none⟩ = some (.int .u8 (G at_))) := cell_later hB6 (isBytes_at0 HS4.out hat)
  have hK0 := KRel.start hR6 hat hlt6
  clear hrow5 hrl5 hS5 hB5 hB6 hR6 HS4 HB24 hbytes hmax
  go_loopw [4, 10, 11] (fun r i kx wr => ∃ b : Nat, b ≤ 256 ∧ i = .int .i64 b ∧ KRel w6 wr w4.heap.size w6.heap.size at_ b) (fun _ i _ _ => 256 - (intOf i).toNat)
  case atStart => exact ⟨0, by omega, rfl, hK0⟩
  case round =>
    obtain ⟨b, hb, rfl, hK⟩ := hrel
    by_cases hlt : b < 256
    · obtain ⟨v, hv⟩ := hK.text
      have hf := hK.tfroz
      go_wp2_with fail
      refine (dec_in w4.heap.size 0 len len at_ b _ hat (by omega) (hK.stored b)).mono ?_
      rintro e wb ⟨rfl, hBb⟩
      obtain ⟨q, hq⟩ : ∃ q, Hid (q = kindN b) := ⟨_, rfl⟩
      rw [← hq.out]
      have hq6 : q ≤ 6 := by rw [hq.out]; exact kindN_le b
      obtain ⟨hcq, hfq⟩ := hK.cnt_later hBb q (by omega)
      have hcb := cnt_le q b
      have hdat : ∀ u, (wb.setCell ⟨w6.heap.size, q, none⟩ u).cell? ⟨w.heap.size, at_, none⟩ = some (.int .u8 (G at_)) := fun u => by
        rw [(((hK.below_later hBb).setCell (p := ⟨w6.heap.size, q, none⟩) (Nat.le_of_lt hlt6) u).cell (p := ⟨w.heap.size, at_, none⟩) hST)]
        exact hdat0.out
      have HKn : Hid (KRel w6 (wb.setCell ⟨w6.heap.size, q, none⟩ (.int .i64 ((cnt q b : Int) + 1))) w4.heap.size w6.heap.size at_ (b + 1)) := hK.step hBb hq.out
      clear hv hf hK hBb hK0
      generalize cnt q b = cq at *
      by_cases hbg : b = G at_
      · have hb1 : ((b : Int) == (G at_ : Int)) = true := by simp [hbg]
        have hqk : ((q : Int) != (kk : Int)) = false := by
          have : q = kk := by rw [hq.out, hbg]; exact HKK.out
          simp [this]
        have HG : Hid (b = G at_) := hbg
        clear hbg
        go_wp2_with fail
        go_roundw
        case rel => exact ⟨b + 1, by omega, by go_num, HKn.out⟩
        case measure => simp [intOf]; omega
      · have hb1 : ((b : Int) == (G at_ : Int)) = false := by simp; omega
        clear hbg
        go_wp2_with fail
        go_roundw
        case rel => exact ⟨b + 1, by omega, by go_num, HKn.out⟩
        case measure => simp [intOf]; omega
    · obtain rfl : b = 256 := by omega
      obtain ⟨e0, e1, e2, e3, e4, e5, e6⟩ := cnt_all
      have c0 := hK.cnts 0 (by omega)
      have c1 := hK.cnts 1 (by omega)
      have c2 := hK.cnts 2 (by omega)
      have c3 := hK.cnts 3 (by omega)
      have c4 := hK.cnts 4 (by omega)
      have c5 := hK.cnts 5 (by omega)
      have c6 := hK.cnts 6 (by omega)
      rw [e0] at c0
      rw [e1] at c1
      rw [e2] at c2
      rw [e3] at c3
      rw [e4] at c4
      rw [e5] at c5
      rw [e6] at c6
      clear e0 e1 e2 e3 e4 e5 e6
      have heqA := eq_counts
      go_wp2_with fail
      go_ret
      exact ⟨rfl, HB6'.out.trans (hK.bel.mono (Nat.le_of_lt hST))⟩
end Go.Proofs.Qxb6613703a

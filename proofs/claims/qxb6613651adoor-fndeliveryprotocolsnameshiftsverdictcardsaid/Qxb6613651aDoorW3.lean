import Derived.Test.Qxb6613651aDoorW2
import Derived.Lib.ItoaNum
namespace Go.Proofs.Qxb6613651aDoor
open Go.RowKit

/-- zzItoaB1's buffer behind t rounds: 20 cells of bytes, the last t of which are n0's last t digits. -/
structure Digs (w wr : World) (B n0 t : Nat) (D : Nat → Int) : Prop where
  cell : ∀ s, s < 20 → wr.cell? ⟨B, s, none⟩ = some (.int .u8 (D s))
  froz : ∀ s, s < 20 → wr.frozen? ⟨B, s, none⟩ = false
  done : ∀ s, s < t → D (19 - s) = ((Lib.dg n0 s).toNat : Int)
  bel : Below B w wr

theorem dg_toNat (n0 s : Nat) : ((Lib.dg n0 s).toNat : Int) = 48 + ((n0 / 10 ^ s : Nat) : Int) % 10 := by
  unfold Lib.dg
  rw [UInt8.toNat_ofNat', Nat.mod_eq_of_lt (by omega)]
  omega

theorem Digs.step {w wr : World} {B n0 t : Nat} {D : Nat → Int} (h : Digs w wr B n0 t D) {q v : Nat} (hq : q + t = 19) (hv : v = n0 / 10 ^ t) :
    Digs w (wr.setCell ⟨B, q, none⟩ (.int .u8 (48 + (v : Int) % 10))) B n0 (t + 1) (fun s => if s = q then 48 + (v : Int) % 10 else D s) := by
  refine ⟨fun s hs => ?_, fun s hs => ?_, fun s hs => ?_, h.bel.setCell (Nat.le_refl _) _⟩
  · by_cases e : s = q
    · subst e
      rw [World.cell?_setCell_same _ _ _ (h.cell s hs), if_pos rfl]
    · rw [World.cell?_setCell_other _ _ _ _ (by simp), h.cell s hs, if_neg e]
  · rw [World.frozen?_setCell]; exact h.froz s hs
  · by_cases e : s = t
    · subst e
      rw [if_pos (by omega), dg_toNat, hv]
    · rw [if_neg (by omega)]; exact h.done s (by omega)

theorem itoa_end {n0 t v : Nat} (hv : v = n0 / 10 ^ t) (h0 : v = 0) (h1 : 1 ≤ n0) (ht : t = 0 ∨ 10 ^ (t - 1) ≤ n0) : Lib.nDigits n0 = t := by
  have hp : 0 < 10 ^ t := Nat.pow_pos (by decide)
  have hlt : n0 < 10 ^ t := by
    rcases Nat.lt_or_ge n0 (10 ^ t) with h | h
    · exact h
    · have := Nat.div_pos h hp; omega
  cases t with
  | zero => simp at hlt; omega
  | succ k =>
    rcases ht with h | h
    · cases h
    · exact Lib.nDigits_unique k n0 h hlt

theorem itoa_step {n0 t v : Nat} (hv : v = n0 / 10 ^ t) (h0 : 0 < v) : 10 ^ t ≤ n0 := by
  rcases Nat.lt_or_ge n0 (10 ^ t) with h | h
  · rw [Nat.div_eq_of_lt h] at hv; omega
  · exact h

theorem itoa_lt7 {n0 t : Nat} (h : 10 ^ t ≤ n0) (h2 : n0 < 10000000) : t < 7 := by
  rcases Nat.lt_or_ge t 7 with h' | h'
  · exact h'
  · have := Nat.pow_le_pow_right (n := 10) (by decide) h'
    omega

theorem Digs.conv {w wr : World} {B n0 t : Nat} {D : Nat → Int} (h : Digs w wr B n0 t D) {p : Nat} (hp : p + t = 20) (hn : Lib.nDigits n0 = t) :
    (convert 37 9 (.slice (some ⟨B, p, none⟩) (20 - p) (20 - p))).run Tryd.prog wr = .ok (.string ⟨(Lib.decDigits n0).toArray⟩) wr := by
  have hl : (Lib.decDigits n0).length = 20 - p := by rw [Lib.decDigits_length, hn]; omega
  have := run_convert_bytes_back (P := Tryd.prog) wr 37 9 5 ⟨B, p, none⟩ (20 - p) (Lib.decDigits n0) Tryd.underlying37 Tryd.underlying5 Tryd.underlying9 (fun j hj => by
    rw [WideShapes.add_plain, h.cell (p + j) (by omega)]
    have e : p + j = 19 - (t - 1 - j) := by omega
    rw [e, h.done (t - 1 - j) (by omega)]
    have e2 : (Lib.decDigits n0)[j] = Lib.dg n0 (t - 1 - j) := by
      simp only [Lib.decDigits_eq n0, List.getElem_map, List.getElem_range, hn]
    rw [e2])
  rw [hl] at this
  exact this

set_option maxHeartbeats 400000 in
theorem itoa12 (n0 : Nat) (w : World) (h1 : 1 ≤ n0) (h2 : n0 < 10000000) :
    Calls Tryd.prog 12 #[.int .i64 n0] w fun e w' => e = .returned (.string ⟨(Lib.decDigits n0).toArray⟩) ∧ Below w.heap.size w w' := by
  go_enter Tryd.func12, Tryd.ntmps12
  go_wp2
  go_loopw [0, 4] (fun n i wr => ∃ (t p v : Nat) (D : Nat → Int), Hid (p + t = 20) ∧ p ≤ 20 ∧ Hid (t = 0 ∨ 10 ^ (t - 1) ≤ n0) ∧ Hid (v = n0 / 10 ^ t) ∧ v < 10000000 ∧ n = .int .i64 v ∧ i = .int .i64 p ∧ Digs w wr w.heap.size n0 t D) (fun n _ _ => (intOf n).toNat)
  case atStart =>
    refine ⟨0, 20, n0, fun _ => 0, rfl, Nat.le_refl _, .inl rfl, by show n0 = n0 / 10 ^ 0; simp, h2, rfl, rfl, ⟨fun s hs => ?_, fun s hs => ?_, fun s hs => by omega, (Below.refl _ _).alloc (Nat.le_refl _) _⟩⟩
    · rw [World.cell?_alloc_new]
      match s, hs with
      | 0, _ | 1, _ | 2, _ | 3, _ | 4, _ | 5, _ | 6, _ | 7, _ | 8, _ | 9, _ | 10, _ | 11, _ | 12, _ | 13, _ | 14, _ | 15, _ | 16, _ | 17, _ | 18, _ | 19, _ => rfl
      | n + 20, h => exact absurd h (by omega)
    · exact World.frozen?_alloc_new _ _ _ _
  case round =>
    obtain ⟨t, p, v, D, hpt, hp20, ht, hv, hv7, rfl, rfl, hD⟩ := hrel
    by_cases hpos : 0 < v
    · have hle := itoa_step hv.out hpos
      have h7 := itoa_lt7 hle h2
      obtain ⟨q, rfl⟩ : ∃ q, p = q + 1 := ⟨p - 1, by have := hpt.out; omega⟩
      have HL : Hid (10 ^ t ≤ n0) := hle
      have hqt : Hid (q + t = 19) := by have := hpt.out; show q + t = 19; omega
      clear hle h7
      have hc := hD.cell q (by omega)
      have hf := hD.froz q (by omega)
      go_wp2
      go_roundw
      case rel => exact ⟨t + 1, q, v / 10, _, by show q + (t + 1) = 20; have := hqt.out; omega, by omega, .inr (by simpa using HL.out), by show v / 10 = n0 / 10 ^ (t + 1); rw [hv.out, Nat.pow_succ, Nat.div_div_eq_div_mul], by omega, by go_num, rfl, hD.step hqt.out hv.out⟩
      case measure => simp [intOf]; omega
    · have hz : v = 0 := by omega
      have hn := itoa_end hv.out hz h1 ht.out
      have hcv := hD.conv hpt.out hn
      have hsl : ∀ W, (Instr.sliceAt 45 (.pointer (some ⟨w.heap.size, 0, none⟩)) (some (.int .i64 p)) none none).run Tryd.prog W = .ok (.slice (some ⟨w.heap.size, p, none⟩) (20 - p) (20 - p)) W := fun W => by
        have hp1 : p < 20 := by have := hpt.out; have := Lib.nDigits_pos n0; omega
        rw [run_sliceAt_array_l W 45 ⟨w.heap.size, 0, none⟩ (by simp [Program.arrayLen, Program.elem, Tryd.underlying45]) .i64 p (by omega) (by simp [Program.arrayLen, Tryd.underlying45]; omega)]
        go_simp
        omega
      have HN : Hid (Lib.nDigits n0 = t) := hn
      clear hn
      subst hz
      go_wp2
      go_ret
      exact ⟨rfl, hD.bel⟩

theorem itoa12_all (n0 : Nat) (w : World) (h2 : n0 < 10000000) :
    Calls Tryd.prog 12 #[.int .i64 n0] w fun e w' => e = .returned (.string ⟨(Lib.decDigits n0).toArray⟩) ∧ Below w.heap.size w w' := by
  by_cases h1 : 1 ≤ n0
  · exact itoa12 n0 w h1 h2
  · obtain rfl : n0 = 0 := by omega
    have e0 : Lib.decDigits 0 = [48] := by rw [Lib.decDigits_one (by decide)]; rfl
    rw [e0]
    go_enter Tryd.func12, Tryd.ntmps12
    go_wp2
    go_ret
    exact ⟨rfl, Below.refl _ _⟩
end Go.Proofs.Qxb6613651aDoor

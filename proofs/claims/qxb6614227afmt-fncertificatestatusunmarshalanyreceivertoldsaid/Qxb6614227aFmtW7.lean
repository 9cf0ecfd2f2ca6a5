import Derived.Test.Qxb6614227aFmtW6
import Derived.OwnWalk
import Derived.Deep.Light
namespace Go.Proofs.Qxb6614227aFmt
open Go.RowKit Go.Extern.Stop Go.Stop Go.Extern

/-- A slice value's cells hold the bytes G 0, G 1, .. -/
def IsBytes (w : World) (a : Option Addr) (n : Nat) (G : Nat → Nat) : Prop :=
  ∀ i, i < n → ∃ b off, a = some ⟨b, off, none⟩ ∧ w.cell? ⟨b, off + i, none⟩ = some (.int .u8 (G i))
theorem isBytes_below {w w' : World} {a : Option Addr} {n : Nat} {G : Nat → Nat} (h : IsBytes w a n G) (hb : Below w.heap.size w w') : IsBytes w' a n G := by
  intro i hi
  obtain ⟨b, off, ha, hc⟩ := h i hi
  exact ⟨b, off, ha, cell_later hb hc⟩
theorem isBytes_at {w : World} {b off n i : Nat} {G : Nat → Nat} (h : IsBytes w (some ⟨b, off, none⟩) n G) (hi : i < n) : w.cell? ⟨b, off + i, none⟩ = some (.int .u8 (G i)) := by
  obtain ⟨b', off', hbo, hcell⟩ := h i hi
  simp only [Option.some.injEq, Addr.mk.injEq, and_true] at hbo
  obtain ⟨rfl, rfl⟩ := hbo
  exact hcell

/-- A row of n bytes at g, made behind w, of which the first k are H's. -/
structure Fill (w wr : World) (g n k : Nat) (H : Nat → Nat) : Prop where
  bel : Below w.heap.size w wr
  cell : ∀ i, i < n → ∃ v, wr.cell? ⟨g, i, none⟩ = some v
  froz : ∀ i, i < n → wr.frozen? ⟨g, i, none⟩ = false
  done : ∀ i, i < k → wr.cell? ⟨g, i, none⟩ = some (.int .u8 (H i))
theorem Fill.step {w wr : World} {g n k : Nat} {H : Nat → Nat} (h : Fill w wr g n k H) (hg : w.heap.size ≤ g) (hk : k < n) : Fill w (wr.setCell ⟨g, k, none⟩ (.int .u8 (H k))) g n (k + 1) H := by
  obtain ⟨v, hv⟩ := h.cell k hk
  refine ⟨h.bel.setCell (p := ⟨g, k, none⟩) hg _, fun i hi => ?_, fun i hi => by rw [World.frozen?_setCell]; exact h.froz i hi, fun i hi => ?_⟩
  · by_cases e : i = k
    · subst e; exact ⟨_, World.cell?_setCell_same _ _ _ hv⟩
    · rw [World.cell?_setCell_other _ _ _ _ (by simp <;> omega)]; exact h.cell i hi
  · by_cases e : i = k
    · subst e; exact World.cell?_setCell_same _ _ _ hv
    · rw [World.cell?_setCell_other _ _ _ _ (by simp <;> omega)]; exact h.done i (by omega)
theorem fill_start {w w1 : World} {g n : Nat} {xs : List Value} (H : Nat → Nat) (hown : w1.ownsRow w.heap.size 5 1 (.slice (some ⟨g, 0, none⟩) n n) n xs) (hb : Below w.heap.size w w1) : Fill w w1 g n 0 H ∧ g < w1.heap.size := by
  obtain ⟨hl, h2⟩ := hown
  rcases h2 with ⟨h', _⟩ | ⟨g', cap, cur, h', _, hg, _, _, hcs, htake⟩
  · simp at h'
  · simp only [Value.slice.injEq, Option.some.injEq, Addr.mk.injEq, and_true, true_and] at h'
    obtain ⟨rfl, rfl⟩ := h'
    refine ⟨⟨hb, fun i hi => ?_, fun i hi => ?_, fun i hi => by omega⟩, (Array.getElem?_eq_some_iff.1 hg).1⟩
    · simp only [World.cell?, hg]
      exact ⟨_, Array.getElem?_eq_getElem (by omega)⟩
    · simp [World.frozen?, hg]

theorem Tryf.info5 : (Tryf.prog.info? 5).map (fun i => (i.zero, i.size, i.bytes)) = some (some (.int .u8 0), 1, 1) := by kernel_rfl

theorem clone_nil (w : World) : Calls Tryf.prog 7 #[.slice none 0 0] w fun e w' => e = .returned (.slice none 0 0) ∧ w' = w := by
  have hnil := Lib.run_eql_slice_nil (P := Tryf.prog) w 22 5 none 0 0 0 0 Tryf.underlying22
  go_enter Tryf.func7, Tryf.ntmps7
  go_wp2
  go_ret
  exact ⟨rfl, rfl⟩

set_option maxHeartbeats 1600000 in
theorem clone7 (ad : Addr) (n cap : Nat) (G : Nat → Nat) (w : World) (hn : n ≤ 1048576) (hG : IsBytes w (some ad) n G) :
    Calls Tryf.prog 7 #[.slice (some ad) n cap] w fun e w' => e = .returned (.slice (some ⟨w.heap.size, 0, none⟩) n n) ∧ Fill w w' w.heap.size n n G ∧ w.heap.size < w'.heap.size := by
  obtain ⟨i0, hi, hz0, hz1, hz2⟩ := info_parts Tryf.info5
  have hbytes : Hid (i0.bytes * n ≤ 281474976710656) := by show _ ≤ _; rw [hz2]; omega
  have hmax : Hid (n ≤ maxLen) := by show _ ≤ _; unfold maxLen; omega
  have hnil := fun w => Lib.run_eql_slice_nil (P := Tryf.prog) w 22 5 (some ad) n cap 0 0 Tryf.underlying22
  have HG : Hid _ := hG
  clear hG
  go_enter Tryf.func7, Tryf.ntmps7
  go_wp2_with (at_make; refine wpList_make_full _ rfl _ _ 22 rfl w.heap.size 5 i0 (.int .u8 0) 1 Tryf.underlying22 hi hz0 hz1 _ _ _ _ n rfl rfl (by omega) (by omega) hbytes.out hmax.out (Nat.le_refl _) ?_; intro w1 hown hgrow)
  obtain ⟨hF1, hlt1⟩ := fill_start G hown ((Below.refl _ _).grown hgrow (Nat.le_refl _) (fun k h => by cases h))
  clear hown hgrow hbytes hmax hnil
  go_loopw [4] (fun i wr => ∃ k : Nat, k ≤ n ∧ i = .int .i64 k ∧ Fill w wr w.heap.size n k G ∧ w.heap.size < wr.heap.size) (fun i _ => n - (intOf i).toNat)
  case atStart => exact ⟨0, by omega, rfl, hF1, hlt1⟩
  case round =>
    obtain ⟨k, hk, rfl, hFk, hltk⟩ := hrel
    by_cases hlt : k < n
    · obtain ⟨b, off, hbo, hc⟩ := HG.out k hlt
      obtain rfl := Option.some.inj hbo
      have hck := cell_later hFk.bel hc
      obtain ⟨v, hv⟩ := hFk.cell k hlt
      have hfz := hFk.froz k hlt
      have HN : Hid _ := hFk.step (Nat.le_refl _) hlt
      clear hFk hF1 hc
      go_wp2_with fail
      go_roundw
      case rel => exact ⟨k + 1, by omega, by go_num, HN.out, by simpa [World.setCell] using hltk⟩
      case measure => simp [intOf]; omega
    · obtain rfl : k = n := by omega
      go_wp2_with fail
      go_ret
      exact ⟨rfl, hFk, hltk⟩

/-- The joined text. -/
def joinF (n : Nat) (G E : Nat → Nat) (i : Nat) : Nat := if i < n then G i else E (i - n)

set_option maxHeartbeats 800000 in
theorem joined20 (a a2 : Option Addr) (n cap m cap2 i : Nat) (G E : Nat → Nat) (w : World) (hn : n + m ≤ 1048576) (hG : IsBytes w a n G) (hE : IsBytes w a2 m E) (hi : i < n + m) :
    Calls Tryf.prog 20 #[.slice a n cap, .slice a2 m cap2, .int .i64 i] w fun e w' => e = .returned (.int .u8 (joinF n G E i)) ∧ w' = w := by
  unfold joinF
  by_cases h : i < n
  · rw [if_pos h]
    obtain ⟨b, off, rfl, hc⟩ := hG i h
    clear hG hE
    go_enter Tryf.func20, Tryf.ntmps20
    go_wp2
    go_ret
    exact ⟨rfl, rfl⟩
  · rw [if_neg h]
    obtain ⟨b, off, rfl, hc⟩ := hE (i - n) (by omega)
    clear hG hE
    go_enter Tryf.func20, Tryf.ntmps20
    go_wp2
    go_ret
    exact ⟨rfl, rfl⟩

theorem tail_no (a a2 : Option Addr) (n cap m cap2 : Nat) (w : World) :
    Calls Tryf.prog 12 #[.slice none 0 0, .bool false, .slice a n cap, .slice a2 m cap2] w fun e w' => e = .returned (.bool true) ∧ w' = w := by
  have hnil := Lib.run_eql_slice_nil (P := Tryf.prog) w 22 5 none 0 0 0 0 Tryf.underlying22
  go_enter Tryf.func12, Tryf.ntmps12
  go_wp2
  go_ret
  exact ⟨rfl, rfl⟩

set_option maxHeartbeats 1600000 in
theorem tail_yes (a a2 : Option Addr) (g n cap m cap2 L : Nat) (G E : Nat → Nat) (w : World) (hn : n + m ≤ 1048576) (h5 : 5 ≤ n + m) (hL : L = n + m - 4) (hG : IsBytes w a n G) (hE : IsBytes w a2 m E) (hc : ∀ i, i < L → w.cell? ⟨g, 4 + i, none⟩ = some (.int .u8 (joinF n G E (4 + i)))) :
    Calls Tryf.prog 12 #[.slice (some ⟨g, 4, none⟩) L L, .bool true, .slice a n cap, .slice a2 m cap2] w fun e w' => e = .returned (.bool true) ∧ ∃ k, w' = w.drewN k := by
  have HJ : Hid (∀ k i, i < n + m → Calls Tryf.prog 20 #[.slice a n cap, .slice a2 m cap2, .int .i64 i] (w.drewN k) fun e w' => e = .returned (.int .u8 (joinF n G E i)) ∧ w' = w.drewN k) := fun k i hi => joined20 a a2 n cap m cap2 i G E _ hn hG hE hi
  have HC : Hid _ := hc
  obtain ⟨J, hJ⟩ : ∃ J : Nat → Nat, J = joinF n G E := ⟨_, rfl⟩
  rw [← hJ] at HJ HC
  clear hG hE hc hJ
  have hne : ((L : Int) != (n : Int) + (m : Int) - 4) = false := by simp; omega
  have hLn : L + 4 = n + m := by omega
  clear hL
  go_enter Tryf.func12, Tryf.ntmps12
  go_wp2_with fail
  go_loopw [8, 10] (fun r i wr => ∃ k c : Nat, k ≤ L ∧ i = .int .i64 k ∧ wr = w.drewN c) (fun _ i _ => L - (intOf i).toNat)
  case atStart => exact ⟨0, 0, by omega, rfl, rfl⟩
  case round =>
    obtain ⟨k, c, hk, rfl, rfl⟩ := hrel
    by_cases hlt : k < L
    · have hck : (w.drewN c).cell? ⟨g, 4 + k, none⟩ = some (.int .u8 (J (4 + k))) := HC.out k hlt
      have HJ4 : ∀ q, Calls Tryf.prog 20 #[.slice a n cap, .slice a2 m cap2, .int .i64 ((4 : Int) + (k : Int))] ((w.drewN c).drewN q) fun e w' => e = .returned (.int .u8 (J (4 + k))) ∧ w' = (w.drewN c).drewN q := fun q => by
        have := HJ.out (c + q) (4 + k) (by omega)
        rw [show ((4 + k : Nat) : Int) = (4 : Int) + (k : Int) by omega] at this
        rw [World.drewN_drewN]
        exact this
      have HJ5 : Hid _ := HJ4
      have hwr : IntKind.i64.wrap ((4 : Int) + (k : Int)) = (4 : Int) + (k : Int) := by rw [IntKind.wrap_i64]; omega
      obtain ⟨wc, hwc⟩ : ∃ wc, Hid (wc = w.drewN c) := ⟨_, rfl⟩
      rw [← hwc.out] at HJ5 hck ⊢
      generalize J (4 + k) = v at *
      have hvv : ((v : Int) != (v : Int)) = false := by simp
      clear HJ4 HJ HC
      go_wp2_with fail
      go_quiet ((go_at_call 20; refine Calls.quiet_of_same (HJ5.out _)))
      go_wp2_with fail
      go_roundw
      case rel => exact ⟨k + 1, _, by omega, by go_num, by rw [hwc.out, World.drewN_drewN]⟩
      case measure => simp [intOf]; omega
    · obtain rfl : k = L := by omega
      go_wp2_with fail
      go_ret
      exact ⟨rfl, _, rfl⟩
end Go.Proofs.Qxb6614227aFmt

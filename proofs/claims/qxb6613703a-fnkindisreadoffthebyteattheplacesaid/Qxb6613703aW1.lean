import Derived.Test.Qxb6613703aRows
import Derived.WalkKit
import Derived.WalkSpells
import Derived.WalkLawsBesides
import Derived.Deep.QuietTactic
import Derived.BigQuiet
namespace Go.Proofs.Qxb6613703a
open Go.RowKit

/-- The kind that a byte tells. -/
def kindN (c : Nat) : Nat :=
  if c = 110 then 1 else if c = 116 ∨ c = 102 then 2 else if c = 45 ∨ (48 ≤ c ∧ c ≤ 57) then 3 else if c = 34 then 4 else if c = 91 then 5 else if c = 123 then 6 else 0

theorem kindN_le (c : Nat) : kindN c ≤ 6 := by
  unfold kindN
  repeat (split; · omega)
  omega

set_option maxHeartbeats 400000 in
theorem peek_in (b o : Nat) (B off len cap at_ c : Nat) (w : World) (hlt : at_ < len) (_hl : len ≤ 1048577)
    (h0 : w.cell? ⟨b, o, none⟩ = some (.slice (some ⟨B, off, none⟩) len cap)) (h1 : w.cell? ⟨b, o + 1, none⟩ = some (.int .i64 at_)) (hc : w.cell? ⟨B, off + at_, none⟩ = some (.int .u8 c)) :
    Calls Try.prog 12 #[.pointer (some ⟨b, o, none⟩)] w fun e w' => e = .returned (.int .u8 c) ∧ Below w.heap.size w w' := by
  go_enter Try.func12, Try.ntmps12
  go_wp2
  go_quiet (fail)
  go_wp2
  go_quiet (fail)
  go_wp2
  go_ret
  exact ⟨rfl, below_drewN (below_drewN (Below.refl _ _) _) _⟩

set_option maxHeartbeats 400000 in
theorem peek_out (b o : Nat) (a : Option Addr) (len cap at_ : Nat) (w : World) (hlt : len ≤ at_) (_hl : at_ ≤ 1048577)
    (h0 : w.cell? ⟨b, o, none⟩ = some (.slice a len cap)) (h1 : w.cell? ⟨b, o + 1, none⟩ = some (.int .i64 at_)) :
    Calls Try.prog 12 #[.pointer (some ⟨b, o, none⟩)] w fun e w' => e = .returned (.int .u8 0) ∧ Below w.heap.size w w' := by
  go_enter Try.func12, Try.ntmps12
  go_wp2
  go_quiet (fail)
  go_wp2
  go_ret
  exact ⟨rfl, below_drewN (Below.refl _ _) _⟩

/-- The method's switch, at a byte. -/
theorem kind_ret {a b : Nat} (h : a = b) : Ending.returned (.int .u8 (a : Int)) = .returned (.int .u8 (b : Int)) := by rw [h]

theorem k_110 {c : Nat} (h : ((c : Int) == 110) = true) : Ending.returned (.int .u8 1) = .returned (.int .u8 (kindN c)) := by
  have h' : (c : Int) = 110 := by simpa using h
  obtain rfl : c = 110 := by omega
  rfl
theorem k_116 {c : Nat} (h : ((c : Int) == 116) = true) : Ending.returned (.int .u8 2) = .returned (.int .u8 (kindN c)) := by
  have h' : (c : Int) = 116 := by simpa using h
  obtain rfl : c = 116 := by omega
  rfl
theorem k_102 {c : Nat} (h : ((c : Int) == 102) = true) : Ending.returned (.int .u8 2) = .returned (.int .u8 (kindN c)) := by
  have h' : (c : Int) = 102 := by simpa using h
  obtain rfl : c = 102 := by omega
  rfl
theorem k_45 {c : Nat} (h : ((c : Int) == 45) = true) : Ending.returned (.int .u8 3) = .returned (.int .u8 (kindN c)) := by
  have h' : (c : Int) = 45 := by simpa using h
  obtain rfl : c = 45 := by omega
  rfl
theorem k_48 {c : Nat} (h : ((c : Int) == 48) = true) : Ending.returned (.int .u8 3) = .returned (.int .u8 (kindN c)) := by
  have h' : (c : Int) = 48 := by simpa using h
  obtain rfl : c = 48 := by omega
  rfl
theorem k_49 {c : Nat} (h : ((c : Int) == 49) = true) : Ending.returned (.int .u8 3) = .returned (.int .u8 (kindN c)) := by
  have h' : (c : Int) = 49 := by simpa using h
  obtain rfl : c = 49 := by omega
  rfl
theorem k_50 {c : Nat} (h : ((c : Int) == 50) = true) : Ending.returned (.int .u8 3) = .returned (.int .u8 (kindN c)) := by
  have h' : (c : Int) = 50 := by simpa using h
  obtain rfl : c = 50 := by omega
  rfl
theorem k_51 {c : Nat} (h : ((c : Int) == 51) = true) : Ending.returned (.int .u8 3) = .returned (.int .u8 (kindN c)) := by
  have h' : (c : Int) = 51 := by simpa using h
  obtain rfl : c = 51 := by omega
  rfl
theorem k_52 {c : Nat} (h : ((c : Int) == 52) = true) : Ending.returned (.int .u8 3) = .returned (.int .u8 (kindN c)) := by
  have h' : (c : Int) = 52 := by simpa using h
  obtain rfl : c = 52 := by omega
  rfl
theorem k_53 {c : Nat} (h : ((c : Int) == 53) = true) : Ending.returned (.int .u8 3) = .returned (.int .u8 (kindN c)) := by
  have h' : (c : Int) = 53 := by simpa using h
  obtain rfl : c = 53 := by omega
  rfl
theorem k_54 {c : Nat} (h : ((c : Int) == 54) = true) : Ending.returned (.int .u8 3) = .returned (.int .u8 (kindN c)) := by
  have h' : (c : Int) = 54 := by simpa using h
  obtain rfl : c = 54 := by omega
  rfl
theorem k_55 {c : Nat} (h : ((c : Int) == 55) = true) : Ending.returned (.int .u8 3) = .returned (.int .u8 (kindN c)) := by
  have h' : (c : Int) = 55 := by simpa using h
  obtain rfl : c = 55 := by omega
  rfl
theorem k_56 {c : Nat} (h : ((c : Int) == 56) = true) : Ending.returned (.int .u8 3) = .returned (.int .u8 (kindN c)) := by
  have h' : (c : Int) = 56 := by simpa using h
  obtain rfl : c = 56 := by omega
  rfl
theorem k_57 {c : Nat} (h : ((c : Int) == 57) = true) : Ending.returned (.int .u8 3) = .returned (.int .u8 (kindN c)) := by
  have h' : (c : Int) = 57 := by simpa using h
  obtain rfl : c = 57 := by omega
  rfl
theorem k_34 {c : Nat} (h : ((c : Int) == 34) = true) : Ending.returned (.int .u8 4) = .returned (.int .u8 (kindN c)) := by
  have h' : (c : Int) = 34 := by simpa using h
  obtain rfl : c = 34 := by omega
  rfl
theorem k_91 {c : Nat} (h : ((c : Int) == 91) = true) : Ending.returned (.int .u8 5) = .returned (.int .u8 (kindN c)) := by
  have h' : (c : Int) = 91 := by simpa using h
  obtain rfl : c = 91 := by omega
  rfl
theorem k_123 {c : Nat} (h : ((c : Int) == 123) = true) : Ending.returned (.int .u8 6) = .returned (.int .u8 (kindN c)) := by
  have h' : (c : Int) = 123 := by simpa using h
  obtain rfl : c = 123 := by omega
  rfl
theorem k_none {c : Nat} (h110 : ((c : Int) == 110) = false) (h116 : ((c : Int) == 116) = false) (h102 : ((c : Int) == 102) = false) (h45 : ((c : Int) == 45) = false) (h48 : ((c : Int) == 48) = false) (h49 : ((c : Int) == 49) = false) (h50 : ((c : Int) == 50) = false) (h51 : ((c : Int) == 51) = false) (h52 : ((c : Int) == 52) = false) (h53 : ((c : Int) == 53) = false) (h54 : ((c : Int) == 54) = false) (h55 : ((c : Int) == 55) = false) (h56 : ((c : Int) == 56) = false) (h57 : ((c : Int) == 57) = false) (h34 : ((c : Int) == 34) = false) (h91 : ((c : Int) == 91) = false) (h123 : ((c : Int) == 123) = false) : Ending.returned (.int .u8 0) = .returned (.int .u8 (kindN c)) := by
  simp only [beq_eq_false_iff_ne, ne_eq] at h110 h116 h102 h45 h48 h49 h50 h51 h52 h53 h54 h55 h56 h57 h34 h91 h123
  have : kindN c = 0 := by
    unfold kindN
    rw [if_neg (by omega), if_neg (by omega), if_neg (by omega), if_neg (by omega), if_neg (by omega), if_neg (by omega)]
  rw [this]; rfl

set_option maxHeartbeats 1000000 in
theorem kind_in (v d : Nat) (B off len cap at_ c : Nat) (w : World) (hlt : at_ < len) (hl : len ≤ 1048577)
    (hv : w.cell? ⟨v, 0, none⟩ = some (.pointer (some ⟨d, 0, none⟩)))
    (h0 : w.cell? ⟨d, 0, none⟩ = some (.slice (some ⟨B, off, none⟩) len cap)) (h1 : w.cell? ⟨d, 1, none⟩ = some (.int .i64 at_)) (hc : w.cell? ⟨B, off + at_, none⟩ = some (.int .u8 c)) :
    Calls Try.prog 11 #[.pointer (some ⟨v, 0, none⟩)] w fun e w' => e = .returned (.int .u8 (kindN c)) ∧ Below w.heap.size w w' := by
  go_enter Try.func11, Try.ntmps11
  go_wp2_with (go_at_call 12; refine (peek_in d 0 B off len cap at_ c _ hlt hl h0 h1 hc).mono ?_; rintro e w1 ⟨rfl, hB1⟩)
  all_goals go_ret
  · exact ⟨k_110 (by assumption), hB1⟩
  · exact ⟨k_116 (by assumption), hB1⟩
  · exact ⟨k_102 (by assumption), hB1⟩
  · exact ⟨k_45 (by assumption), hB1⟩
  · exact ⟨k_48 (by assumption), hB1⟩
  · exact ⟨k_49 (by assumption), hB1⟩
  · exact ⟨k_50 (by assumption), hB1⟩
  · exact ⟨k_51 (by assumption), hB1⟩
  · exact ⟨k_52 (by assumption), hB1⟩
  · exact ⟨k_53 (by assumption), hB1⟩
  · exact ⟨k_54 (by assumption), hB1⟩
  · exact ⟨k_55 (by assumption), hB1⟩
  · exact ⟨k_56 (by assumption), hB1⟩
  · exact ⟨k_57 (by assumption), hB1⟩
  · exact ⟨k_34 (by assumption), hB1⟩
  · exact ⟨k_91 (by assumption), hB1⟩
  · exact ⟨k_123 (by assumption), hB1⟩
  · exact ⟨k_none (by assumption) (by assumption) (by assumption) (by assumption) (by assumption) (by assumption) (by assumption) (by assumption) (by assumption) (by assumption) (by assumption) (by assumption) (by assumption) (by assumption) (by assumption) (by assumption) (by assumption), hB1⟩

set_option maxHeartbeats 1000000 in
theorem kind_out (v d : Nat) (a : Option Addr) (len cap at_ : Nat) (w : World) (hlt : len ≤ at_) (hl : at_ ≤ 1048577)
    (hv : w.cell? ⟨v, 0, none⟩ = some (.pointer (some ⟨d, 0, none⟩)))
    (h0 : w.cell? ⟨d, 0, none⟩ = some (.slice a len cap)) (h1 : w.cell? ⟨d, 1, none⟩ = some (.int .i64 at_)) :
    Calls Try.prog 11 #[.pointer (some ⟨v, 0, none⟩)] w fun e w' => e = .returned (.int .u8 0) ∧ Below w.heap.size w w' := by
  go_enter Try.func11, Try.ntmps11
  go_wp2_with (go_at_call 12; refine (peek_out d 0 a len cap at_ _ hlt hl h0 h1).mono ?_; rintro e w1 ⟨rfl, hB1⟩)
  go_ret
  exact ⟨rfl, hB1⟩

theorem below_two (w : World) (o1 o2 : Obj) : Below w.heap.size w ((w.alloc o1).alloc o2) := ((Below.refl _ _).alloc (Nat.le_refl _) _).alloc (by simp) _

set_option maxHeartbeats 1000000 in
theorem dec_in (B off len cap at_ c : Nat) (w : World) (hlt : at_ < len) (hl : len ≤ 1048577) (hc : w.cell? ⟨B, off + at_, none⟩ = some (.int .u8 c)) :
    Calls Try.prog 9 #[.slice (some ⟨B, off, none⟩) len cap, .int .i64 at_] w fun e w' => e = .returned (.int .u8 (kindN c)) ∧ Below w.heap.size w w' := by
  have hc2 := fun o1 o2 => cell_later (below_two w o1 o2) hc
  go_enter Try.func9, Try.ntmps9
  go_wp2_with fail
  refine (kind_in (w.heap.size + 1) w.heap.size B off len cap at_ c _ hlt hl (by simp [go_sem]) (by simp [go_sem, World.cell?_alloc_past]) (by simp [go_sem, World.cell?_alloc_past]) (hc2 _ _)).mono ?_
  rintro e w1 ⟨rfl, hB1⟩
  clear hc2
  go_wp2_with fail
  go_ret
  exact ⟨rfl, (below_two w _ _).trans (hB1.mono (below_two w _ _).size)⟩

set_option maxHeartbeats 1000000 in
theorem dec_out (a : Option Addr) (len cap at_ : Nat) (w : World) (hlt : len ≤ at_) (hl : at_ ≤ 1048577) :
    Calls Try.prog 9 #[.slice a len cap, .int .i64 at_] w fun e w' => e = .returned (.int .u8 0) ∧ Below w.heap.size w w' := by
  go_enter Try.func9, Try.ntmps9
  go_wp2_with fail
  refine (kind_out (w.heap.size + 1) w.heap.size a len cap at_ _ hlt hl (by simp [go_sem]) (by simp [go_sem, World.cell?_alloc_past]) (by simp [go_sem, World.cell?_alloc_past])).mono ?_
  rintro e w1 ⟨rfl, hB1⟩
  go_wp2_with fail
  go_ret
  exact ⟨rfl, (below_two w _ _).trans (hB1.mono (below_two w _ _).size)⟩
end Go.Proofs.Qxb6613703a

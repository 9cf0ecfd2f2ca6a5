import Derived.Test.Qxb6613651aDoorW8
import Derived.Test.Qxb6613651aDoorCards
import Derived.Test.Qxb6613651aDoorTie
import Derived.ProofKit
import Derived.LaidMore
import Derived.OpenShut
import Derived.SliceStrings
import Derived.Stop.Joined
import Derived.Stop.LaidErr
import Derived.SevenTiedAt
namespace Go.Proofs.Qxb6613651aDoor
open Go.ChangeShapes Go.WideShapes Go.ChangeAt Go.WideMaps Go.WideElems Go.RowKit

theorem own : ownKnob Tryd.prog.godebug = none := by kernel_rfl
theorem laidOut : laidOutB Tryd.prog = true := by kernel_rfl
theorem Tryd.cells9 : Tryd.prog.cellsOf 9 = 1 := by kernel_rfl

/-- The three listed tables. -/
def laid3 : List (String × DataW Unit) := Rows.fnDeliveryProtocolsEmptyNameAnyPlaceRow.laid

/-- The door's own heap meets the condition. -/
theorem door_met (os : Os) (args : Array Value) : laidMetH Tryd.prog laid3 ((World.doorLaid Tryd.prog 41 os).forCall (fun _ _ => 0) ⟨#[], args, []⟩).memory :=
  laidMetH_of_parts3 (fuel := 8) (laidMet_of_run' 8 (by kernel_rfl) (by kernel_rfl)) (by kernel_rfl) (by kernel_rfl)

theorem powT : (Tryd.prog.globals[4]?).map (·.type) = some 111 := by kernel_rfl
theorem cells98 : Tryd.prog.cellsOf 98 = 1 := by kernel_rfl
theorem cells111 : Tryd.prog.cellsOf 111 = 20 := by kernel_rfl
theorem laid3_eq : laid3 = [laid3.getD 0 (powName, .nil), laid3.getD 1 (powName, .nil), (powName, Lib.tabData .u64 Lib.pow10Tab)] := by kernel_rfl

theorem tab_of_laid {W : World} (h : laidMetH Tryd.prog laid3 W) : TabOk W := by
  rw [MakeChecks.laidMetH_plain _ _ _ (by kernel_rfl), laid3_eq] at h
  exact Lib.tabIs_of_head powG powT Tryd.underlying111 Tryd.underlying98 cells98 cells111 h.tail.tail

/-- WHAT THE WALK IS TOLD OF A SLICE OF STRINGS THAT CAME IN. -/
theorem open_ps {H : Type} {enc : TypeId × Value → H} {W : World} {a0 : Option Addr} {len0 cap0 : Nat} {d0 : DataW H} {p0 : List MemPlace} {base : Nat} {sp : Nat → Bool} {held : Bool}
    (h0 : DataW.Trod enc Tryd.prog W base sp held 22 (.slice a0 len0 cap0) d0 p0) :
    ∃ F : Nat → ByteArray, (a0 = none → len0 = 0 ∧ cap0 = 0) ∧ len0 ≤ maxLen ∧ IsStrs W a0 len0 F ∧ ∀ i, i < len0 → (F i).size ≤ maxLen := by
  obtain ⟨fuel, hf⟩ := h0
  rcases open_strings Tryd.underlying22 Tryd.underlying9 Tryd.cells9 hf with ⟨hcs, _⟩ | ⟨x, l, c, ss, hcs, _, hl, hm, hz, _, hcell, hws⟩
  · simp [Value.cells] at hcs
    obtain ⟨rfl, rfl, rfl⟩ := hcs
    exact ⟨fun _ => ByteArray.empty, fun _ => ⟨rfl, rfl⟩, Nat.zero_le _, fun i hi => absurd hi (by omega), fun i hi => absurd hi (by omega)⟩
  · simp [Value.cells] at hcs
    obtain ⟨rfl, rfl, rfl⟩ := hcs
    have hlen : len0 ≤ ss.length := by rw [hz]; split <;> omega
    refine ⟨fun i => ss.getD i ByteArray.empty, fun h => (by cases h), Nat.le_trans hl hm, fun i hi => ?_, fun i hi => ?_⟩
    · have hc := hcell i (by omega)
      have hc0 := hcell 0 (by omega)
      obtain ⟨b, off, spot⟩ := x
      have hspot : spot = none := by simpa [Addr.add] using World.cell?_spot hc0
      subst hspot
      exact ⟨b, off, rfl, by rw [← Go.WideShapes.add_plain]; exact hc⟩
    · have : ss.getD i ByteArray.empty ∈ ss := by
        rw [List.getD, List.getElem?_eq_getElem (show i < ss.length by omega)]
        exact List.getElem_mem _
      exact hws _ this
end Go.Proofs.Qxb6613651aDoor

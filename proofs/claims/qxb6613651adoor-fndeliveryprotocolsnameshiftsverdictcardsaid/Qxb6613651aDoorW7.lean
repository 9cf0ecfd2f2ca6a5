import Derived.Test.Qxb6613651aDoorShelf
import Derived.Test.Qxb6613651aDoorW5
import Derived.Test.Qxb6613651aDoorW6
import Derived.Lib.LaidTab
namespace Go.Proofs.Qxb6613651aDoor
open Go.RowKit

/-- The table of powers of ten, by the name that the row lists third. -/
def powName : String := match Rows.fnDeliveryProtocolsEmptyNameAnyPlaceRow.laid with | [_, _, (n, _)] => n | _ => ""
def TabOk (w : World) : Prop := Lib.TabIs Tryd.prog w powName .u64 Lib.pow10Tab
theorem powG : Tryd.prog.globalNamed powName = some 4 := by kernel_rfl

theorem TabOk.later {w w' : World} (h : TabOk w) (hb : Below w.heap.size w w') : TabOk w' := by
  unfold TabOk Lib.TabIs World.var? at h ⊢
  rw [powG] at h ⊢
  simp only [Option.bind_some] at h ⊢
  have hlt : 4 < w.heap.size := by
    rcases Nat.lt_or_ge 4 w.heap.size with h' | h'
    · exact h'
    · rw [Array.getElem?_eq_none h'] at h; cases h
  rw [hb.block 4 hlt]
  exact h

theorem below_grow (w : World) (k : Nat) (os : Array Obj) : Below w.heap.size w (Sort.grow (w.drewN k) os) :=
  ⟨rfl, rfl, rfl, by show w.heap.size ≤ (w.heap ++ os).size; rw [Array.size_append]; omega, fun j hj => by
    show (w.heap ++ os)[j]? = w.heap[j]?
    rw [Array.getElem?_append_left hj]⟩

theorem itoaAt {w : World} (h : TabOk w) {m : Nat} (hm : m < 10000000) : ItoaAt w m := fun w1 hb => by
  refine (Any.strconv_Itoa Tryd.laysM171 m (by omega) (by omega) w1 (h.later hb)).mono ?_
  rintro e w' ⟨rfl, k, os, rfl⟩
  rw [Lib.itoa_nonneg]
  exact ⟨rfl, below_grow _ _ _⟩
end Go.Proofs.Qxb6613651aDoor

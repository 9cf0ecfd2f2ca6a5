import Derived.Test.Qxb6613703aW1
import Derived.Laws.CopyOwn
import Derived.Deep.Light
namespace Go.Proofs.Qxb6613703a
open Go.RowKit

/-- A slice value's cells hold the bytes G 0, G 1, .. -/
def IsBytes (w : World) (a : Option Addr) (n : Nat) (G : Nat → Nat) : Prop :=
  ∀ i, i < n → ∃ b off, a = some ⟨b, off, none⟩ ∧ w.cell? ⟨b, off + i, none⟩ = some (.int .u8 (G i))
theorem isBytes_below {w w' : World} {a : Option Addr} {n : Nat} {G : Nat → Nat} (h : IsBytes w a n G) (hb : Below w.heap.size w w') : IsBytes w' a n G := by
  intro i hi
  obtain ⟨b, off, ha, hc⟩ := h i hi
  exact ⟨b, off, ha, cell_later hb hc⟩
theorem isBytes_at0 {w : World} {g n i : Nat} {G : Nat → Nat} (h : IsBytes w (some ⟨g, 0, none⟩) n G) (hi : i < n) : w.cell? ⟨g, i, none⟩ = some (.int .u8 (G i)) := by
  obtain ⟨b, off, hbo, hcell⟩ := h i hi
  simp only [Option.some.injEq, Addr.mk.injEq, and_true] at hbo
  obtain ⟨rfl, rfl⟩ := hbo
  rwa [Nat.zero_add] at hcell
/-- The cells of a row of n bytes. -/
def rowB (G : Nat → Nat) (n : Nat) : List Value := (List.range n).map fun i => Value.int .u8 (G i)
theorem rowB_length (G : Nat → Nat) (n : Nat) : (rowB G n).length = n := by simp [rowB]
theorem rowB_at (G : Nat → Nat) (n j : Nat) (h : j < n) : (rowB G n)[j]? = some (.int .u8 (G j)) := by simp [rowB, h]
theorem rowB_one (G : Nat → Nat) (n : Nat) : ∀ v ∈ rowB G n, v.oneCell' = true := by
  intro v hv
  simp only [rowB, List.mem_map] at hv
  obtain ⟨i, _, rfl⟩ := hv
  rfl
theorem src_cells {w : World} {a : Option Addr} {len : Nat} {G : Nat → Nat} (hS : IsBytes w a len G) (hp : 0 < (rowB G len).length) : ∃ ad', a = some ad' ∧ ∀ j v, (rowB G len)[j]? = some v → w.cell? (ad'.add j) = some v := by
  rw [rowB_length] at hp
  obtain ⟨b, off, rfl, _⟩ := hS 0 hp
  refine ⟨_, rfl, fun j v hv => ?_⟩
  have hj : j < len := by have := (List.getElem?_eq_some_iff.1 hv).1; rwa [rowB_length] at this
  rw [rowB_at G len j hj] at hv
  obtain ⟨b', off', hb, hc⟩ := hS j hj
  simp only [Option.some.injEq, Addr.mk.injEq, and_true] at hb
  obtain ⟨rfl, rfl⟩ := hb
  rw [WideShapes.add_plain, hc, ← hv]

theorem own_full {w : World} {B e g n : Nat} {xs : List Value} (h : w.ownsRow B e 1 (.slice (some ⟨g, 0, none⟩) n n) n xs) : w.heap[g]? = some (.cells xs.toArray e (0, 0)) := by
  obtain ⟨hl, h2⟩ := h
  rcases h2 with ⟨h', _⟩ | ⟨g', cap, cur, h', _, hg, _, _, hcs, htake⟩
  · simp at h'
  · simp only [Value.slice.injEq, Option.some.injEq, Addr.mk.injEq, and_true, true_and] at h'
    obtain ⟨rfl, rfl⟩ := h'
    rw [hg]
    have : cur.toList = xs := by rw [← htake, List.take_of_length_le]; simp; omega
    rw [← this]

theorem splice_all {L cs : List Value} (h : cs.length = L.length) : splice L 0 cs = cs := by
  unfold splice
  rw [List.take_zero, Nat.zero_add, h, List.drop_length]; simp

theorem copied {w : World} {g len : Nat} {L : List Value} {G : Nat → Nat} (hL : L.length = len) (h : w.heap[g]? = some (.cells (splice L 0 (rowB G len)).toArray 5 (0, 0))) : IsBytes w (some ⟨g, 0, none⟩) len G := by
  intro i hi
  rw [splice_all (by rw [rowB_length, hL])] at h
  refine ⟨g, 0, rfl, ?_⟩
  simp only [World.cell?, h]
  simp [rowB, hi]

/-- The second row, behind its copy: each cell is a byte, none is frozen. -/
def ByteRow (w : World) (T room : Nat) : Prop := ∀ i, i < room → (∃ v : Nat, w.cell? ⟨T, i, none⟩ = some (.int .u8 v)) ∧ w.frozen? ⟨T, i, none⟩ = false
theorem byteRow_splice {w : World} {T room len : Nat} {G : Nat → Nat} (hl : len ≤ room) (h : w.heap[T]? = some (.cells (splice (madeCells (Value.int .u8 0).cells (room * 1)).toList 0 (rowB G len)).toArray 5 (0, 0))) : ByteRow w T room := by
  intro i hi
  have e : (madeCells (Value.int .u8 0).cells (room * 1)).toList = List.replicate room (.int .u8 0) := by
    rw [Nat.mul_one]; exact toList_madeCells_one _ _
  rw [e] at h
  refine ⟨?_, by simp [World.frozen?, h]⟩
  simp only [World.cell?, h]
  by_cases hil : i < len
  · refine ⟨G i, ?_⟩
    simp [splice, List.getElem?_append, rowB_length, hil]
    simp [rowB]
  · refine ⟨0, ?_⟩
    simp [splice, List.getElem?_append, rowB_length, hil]
    rw [List.getElem?_replicate, if_pos (by omega)]

def cnt (j : Nat) : Nat → Nat | 0 => 0 | b + 1 => cnt j b + if kindN b = j then 1 else 0
theorem cnt_le (j : Nat) : ∀ b, cnt j b ≤ b
  | 0 => Nat.le_refl _
  | b + 1 => by have := cnt_le j b; simp only [cnt]; split <;> omega
theorem cnt_all : cnt 0 256 = 239 ∧ cnt 1 256 = 1 ∧ cnt 2 256 = 2 ∧ cnt 3 256 = 11 ∧ cnt 4 256 = 1 ∧ cnt 5 256 = 1 ∧ cnt 6 256 = 1 := by decide +kernel
theorem Try.info5 : (Try.prog.info? 5).map (fun i => (i.zero, i.size, i.bytes)) = some (some (.int .u8 0), 1, 1) := by kernel_rfl
theorem Try.size5 : (Try.prog.info? 5).map (·.size) = some 1 := by kernel_rfl

theorem lt_of_cell {w : World} {a : Addr} {v : Value} (h : w.cell? a = some v) : a.block < w.heap.size := by
  rcases Nat.lt_or_ge a.block w.heap.size with h' | h'
  · exact h'
  · simp [World.cell?, Array.getElem?_eq_none h'] at h

/-- The state at a round's head: the text's cell at the place, the seven counts, what lies below. -/
structure KRel (w0 wr : World) (T C at_ b : Nat) : Prop where
  text : ∃ v : Nat, wr.cell? ⟨T, at_, none⟩ = some (.int .u8 v)
  tfroz : wr.frozen? ⟨T, at_, none⟩ = false
  cnts : ∀ j, j < 7 → wr.cell? ⟨C, j, none⟩ = some (.int .i64 (cnt j b))
  cfroz : ∀ j, j < 7 → wr.frozen? ⟨C, j, none⟩ = false
  bel : Below T w0 wr
  lt : T < C

theorem KRel.stored {w0 wr : World} {T C at_ b : Nat} (h : KRel w0 wr T C at_ b) (u : Nat) : (wr.setCell ⟨T, at_, none⟩ (.int .u8 u)).cell? ⟨T, 0 + at_, none⟩ = some (.int .u8 u) := by
  obtain ⟨v, hv⟩ := h.text
  rw [Nat.zero_add, World.cell?_setCell_same _ _ _ hv]

theorem KRel.cnt_later {w0 wr wb : World} {T C at_ b u : Nat} (h : KRel w0 wr T C at_ b) (hb : Below (wr.setCell ⟨T, at_, none⟩ (.int .u8 u)).heap.size (wr.setCell ⟨T, at_, none⟩ (.int .u8 u)) wb) (j : Nat) (hj : j < 7) :
    wb.cell? ⟨C, j, none⟩ = some (.int .i64 (cnt j b)) ∧ wb.frozen? ⟨C, j, none⟩ = false := by
  have hne : C ≠ T := by have := h.lt; omega
  have hc : (wr.setCell ⟨T, at_, none⟩ (.int .u8 u)).cell? ⟨C, j, none⟩ = some (.int .i64 (cnt j b)) := by
    rw [World.cell?_setCell_other _ _ _ _ (by simp)]; exact h.cnts j hj
  refine ⟨cell_later hb hc, ?_⟩
  rw [hb.frozen (p := ⟨C, j, none⟩) (lt_of_cell hc), World.frozen?_setCell]
  exact h.cfroz j hj

theorem KRel.below_later {w0 wr wb : World} {T C at_ b u : Nat} (h : KRel w0 wr T C at_ b) (hb : Below (wr.setCell ⟨T, at_, none⟩ (.int .u8 u)).heap.size (wr.setCell ⟨T, at_, none⟩ (.int .u8 u)) wb) : Below T w0 wb := by
  obtain ⟨v, hv⟩ := h.text
  have hlt := lt_of_cell hv
  exact (h.bel.setCell (p := ⟨T, at_, none⟩) (Nat.le_refl _) _).trans (hb.mono (by simp [World.setCell]; exact Nat.le_of_lt hlt))

theorem KRel.step {w0 wr wb : World} {T C at_ b q : Nat} (h : KRel w0 wr T C at_ b) (hb : Below (wr.setCell ⟨T, at_, none⟩ (.int .u8 b)).heap.size (wr.setCell ⟨T, at_, none⟩ (.int .u8 b)) wb) (hq : q = kindN b) :
    KRel w0 (wb.setCell ⟨C, q, none⟩ (.int .i64 ((cnt q b : Int) + 1))) T C at_ (b + 1) := by
  have hne : C ≠ T := by have := h.lt; omega
  have hq6 : q ≤ 6 := by rw [hq]; exact kindN_le b
  obtain ⟨v, hv⟩ := h.text
  have ht : (wr.setCell ⟨T, at_, none⟩ (.int .u8 b)).cell? ⟨T, at_, none⟩ = some (.int .u8 b) := World.cell?_setCell_same _ _ _ hv
  refine ⟨⟨b, ?_⟩, ?_, fun j hj => ?_, fun j hj => ?_, ?_, h.lt⟩
  · rw [World.cell?_setCell_other _ _ _ _ (by simp)]; exact cell_later hb ht
  · rw [World.frozen?_setCell, hb.frozen (p := ⟨T, at_, none⟩) (lt_of_cell ht), World.frozen?_setCell]; exact h.tfroz
  · by_cases e : j = q
    · subst e
      rw [World.cell?_setCell_same _ _ _ (h.cnt_later hb j hj).1]
      simp only [cnt, ← hq, if_pos]
      congr 2
    · rw [World.cell?_setCell_other _ _ _ _ (by simp), (h.cnt_later hb j hj).1]
      have : ¬ kindN b = j := by rw [← hq]; exact fun e' => e e'.symm
      simp only [cnt, if_neg this, Nat.add_zero]
  · rw [World.frozen?_setCell]; exact (h.cnt_later hb j hj).2
  · exact (h.below_later hb).setCell (p := ⟨C, q, none⟩) (by have := h.lt; simp; omega) _
end Go.Proofs.Qxb6613703a

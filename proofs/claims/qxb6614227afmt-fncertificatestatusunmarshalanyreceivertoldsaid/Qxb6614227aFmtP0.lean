import Derived.Test.Qxb6614227aFmtW8
import Derived.Test.Qxb6614227aFmtCards
import Derived.Test.Qxb6614227aFmtTie
import Derived.ProofKit
import Derived.LaidMore
import Derived.OpenShut
import Derived.ChangeBears2
import Derived.Maps.OwnSet
import Derived.Maps.StringElems
import Derived.Stop.JoinedAt
import Derived.Stop.JoinedTold
import Derived.Stop.LaidErr
import Derived.Deep.DeepWitnessRef
import Derived.SevenTiedAt
namespace Go.Proofs.Qxb6614227aFmt
open Go.ChangeShapes Go.WideShapes Go.ChangeAt Go.RowKit Go.WideElems Go.Maps
open Go.Extern.Stop Go.Stop Go.Extern

theorem own : ownKnob Tryf.prog.godebug = none := by kernel_rfl
theorem laidOut : laidOutB Tryf.prog = true := by kernel_rfl
/-- The one listed variable. -/
def laid1 : List (String × DataW Unit) := Rows.fnCertificateStatusUnmarshalTrailingBytesRow.laid
def nm : String := match Rows.fnCertificateStatusUnmarshalTrailingBytesRow.laid with | (n, _) :: _ => n | [] => ""
theorem laid1_eq : laid1 = [(nm, Rows.laid_example_com_hellowire_hellowire_messageNames)] := rfl
theorem gNames : Tryf.prog.globalNamed nm = some 0 := by kernel_rfl
theorem tNames : (Tryf.prog.globals[0]?).map (·.type) = some 64 := by kernel_rfl
theorem door_met (os : Os) (args : Array Value) : laidMetH Tryf.prog laid1 ((World.doorLaid Tryf.prog 84 os).forCall (fun _ _ => 0) ⟨#[], args, []⟩).memory :=
  laidMetH_of_parts3 (fuel := 8) (laidMet_of_run' 8 (by kernel_rfl) (by kernel_rfl)) (by kernel_rfl) (by kernel_rfl)
theorem law46 : Keyed Tryf.prog 46 := int_keyed Tryf.underlying46
theorem zero9 (w : World) : (zeroValue 9).run Tryf.prog w = .ok (.string ⟨#[]⟩) w := by kernel_rfl

set_option maxHeartbeats 800000 in
theorem name23 (bm : Nat) (s : ByteArray) (w : World) (hc : w.cell? ⟨0, 0, none⟩ = some (.map (some bm))) (hrun : (Instr.lookup 64 (.map (some bm)) (.int .u8 22) false).run Tryf.prog w = .ok (.string s) w) :
    Calls Tryf.prog 23 #[.int .u8 22] w fun e w' => e = .returned (.string s) ∧ w' = w := by
  go_enter Tryf.func23, Tryf.ntmps23
  go_wp2
  go_ret
  exact ⟨rfl, rfl⟩

/-- 'certificate_status' -/
def nameL : List UInt8 := [99, 101, 114, 116, 105, 102, 105, 99, 97, 116, 101, 95, 115, 116, 97, 116, 117, 115]

theorem of_laid {W : World} (h : laidMetH Tryf.prog laid1 W) : ∃ s : ByteArray, s.size ≤ 1000 ∧ Named W s := by
  rw [MakeChecks.laidMetH_plain _ _ _ (by kernel_rfl), laid1_eq] at h
  obtain ⟨ps, ⟨g0, t0, cs0, f0, p0, q0, hg0, ht0, hv0, hd0, _, _⟩, _, _⟩ := h
  obtain rfl := Option.some.inj (gNames.symm.trans hg0)
  obtain rfl := Option.some.inj (tNames.symm.trans ht0)
  rcases open_map Tryf.underlying64 hd0 with ⟨_, hx⟩ | ⟨bm, es, clock, m, rfl, hcs, hb, _, F, hx⟩
  · simp [Rows.laid_example_com_hellowire_hellowire_messageNames] at hx
  simp only [Prod.mk.injEq] at hx
  have hcell : W.cell? ⟨0, 0, none⟩ = some (.map (some bm)) := by
    have := World.var?_cell hg0 hv0 0
    rw [Array.eq_one_of_toList hcs] at this
    simpa using this
  have hown := World.ownsMap_of_fit (R := plainElem Tryf.prog 9) hb F (fun x _ z hz => elemAt_plainElem_string Tryf.underlying9 hz)
  rw [← hx.1] at hown
  have hbm : bm < W.heap.size := lt_of_block hb
  refine ⟨⟨nameL.toArray⟩, by decide, fun wr hB => ?_⟩
  obtain ⟨es', clock', hb', F', hle, hDD⟩ := hown
  have hown' : wr.ownsMap Tryf.prog 46 (plainElem Tryf.prog 9) bm es.size (Rows.laid_example_com_hellowire_hellowire_messageNames) := ⟨es', clock', by rw [hB.block bm hbm]; exact hb', F', hle, hDD⟩
  obtain ⟨v, ps', hrun, hv⟩ := hown'.lookup law46 Tryf.underlying64 (zero9 wr) (plainElem_string Tryf.underlying9 (s := ⟨#[]⟩) (by decide)) (keyOf_int_mk Tryf.underlying46 (a := 22) (by decide))
  obtain ⟨s, rfl, hc, _⟩ := plainElem_string_inv Tryf.underlying9 hv
  have e2 : (Rows.laid_example_com_hellowire_hellowire_messageNames : DataW Unit).atKey (.int .u8 22) (.lit (.string (⟨#[]⟩ : ByteArray).data.toList)) = .lit (.string nameL) := rfl
  rw [e2] at hc
  simp only [Prod.mk.injEq, DataW.lit.injEq, Lit.string.injEq] at hc
  obtain rfl : s = ⟨nameL.toArray⟩ := by rw [hc.1]
  exact name23 bm _ wr (cell_later hB hcell) hrun

theorem open_bytes {H : Type} {enc : TypeId × Value → H} {W : World} {a0 : Option Addr} {len0 cap0 : Nat} {d0 : DataW H} {p0 : List MemPlace} {base : Nat} {sp : Nat → Bool} {held : Bool}
    (h0 : DataW.Trod enc Tryf.prog W base sp held 22 (.slice a0 len0 cap0) d0 p0) :
    ∃ G : Nat → Nat, (a0 = none → len0 = 0 ∧ cap0 = 0) ∧ len0 ≤ maxLen ∧ IsBytes W a0 len0 G ∧ ∀ i, i < len0 → G i ≤ 255 := by
  obtain ⟨fuel, hf⟩ := h0
  rcases open_ints Tryf.underlying22 Tryf.underlying5 (by kernel_rfl) hf with ⟨hcs, _⟩ | ⟨x, l, c, zs, hcs, _, hl, hm, hz, _, hcell, hwz⟩
  · simp [Value.cells] at hcs
    obtain ⟨rfl, rfl, rfl⟩ := hcs
    exact ⟨fun _ => 0, fun _ => ⟨rfl, rfl⟩, Nat.zero_le _, fun i hi => absurd hi (by omega), fun i hi => absurd hi (by omega)⟩
  · simp [Value.cells] at hcs
    obtain ⟨rfl, rfl, rfl⟩ := hcs
    have hlen : len0 ≤ zs.length := by rw [hz]; split <;> omega
    have hb : ∀ i, i < len0 → 0 ≤ zs.getD i 0 ∧ zs.getD i 0 ≤ 255 := fun i hi => by
      have hmem : zs.getD i 0 ∈ zs := by
        rw [List.getD, List.getElem?_eq_getElem (show i < zs.length by omega)]
        exact List.getElem_mem _
      exact bounds_u8 (hwz _ hmem)
    refine ⟨fun i => (zs.getD i 0).toNat, fun h => (by cases h), Nat.le_trans hl hm, fun i hi => ?_, fun i hi => ?_⟩
    · obtain ⟨b, off, rfl, hc⟩ := ints_at hcell (by omega)
      refine ⟨b, off, rfl, ?_⟩
      rw [hc i (by omega)]
      simp only [Int.toNat_of_nonneg (hb i hi).1]
    · have := hb i hi
      show (zs.getD i 0).toNat ≤ 255
      omega
end Go.Proofs.Qxb6614227aFmt

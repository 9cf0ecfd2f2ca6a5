import Derived.Test.Qxb6614227aFmtP0
import Derived.Test.Qxb6614227aFmtW10
namespace Go.Proofs.Qxb6614227aFmt
open Go.ChangeShapes Go.WideShapes Go.ChangeAt Go.RowKit Go.WideElems Go.Maps
open Go.Extern.Stop Go.Stop Go.Extern

theorem open_bytes2 {H : Type} {enc : TypeId × Value → H} {W : World} {a0 : Option Addr} {len0 cap0 : Nat} {d0 : DataW H} {p0 : List MemPlace} {base : Nat} {sp : Nat → Bool} {held : Bool}
    (h0 : DataW.Trod enc Tryf.prog W base sp held 22 (.slice a0 len0 cap0) d0 p0) :
    ∃ G : Nat → Nat, (a0 = none → len0 = 0 ∧ cap0 = 0) ∧ len0 ≤ maxLen ∧ len0 ≤ cap0 ∧ IsBytes W a0 len0 G ∧ ∀ i, i < len0 → G i ≤ 255 := by
  obtain ⟨fuel, hf⟩ := h0
  rcases open_ints Tryf.underlying22 Tryf.underlying5 (by kernel_rfl) hf with ⟨hcs, _⟩ | ⟨x, l, c, zs, hcs, _, hl, hm, hz, _, hcell, hwz⟩
  · simp [Value.cells] at hcs
    obtain ⟨rfl, rfl, rfl⟩ := hcs
    exact ⟨fun _ => 0, fun _ => ⟨rfl, rfl⟩, Nat.zero_le _, Nat.zero_le _, fun i hi => absurd hi (by omega), fun i hi => absurd hi (by omega)⟩
  · simp [Value.cells] at hcs
    obtain ⟨rfl, rfl, rfl⟩ := hcs
    have hlen : len0 ≤ zs.length := by rw [hz]; split <;> omega
    have hb : ∀ i, i < len0 → 0 ≤ zs.getD i 0 ∧ zs.getD i 0 ≤ 255 := fun i hi => by
      have hmem : zs.getD i 0 ∈ zs := by
        rw [List.getD, List.getElem?_eq_getElem (show i < zs.length by omega)]
        exact List.getElem_mem _
      exact bounds_u8 (hwz _ hmem)
    refine ⟨fun i => (zs.getD i 0).toNat, fun h => (by cases h), Nat.le_trans hl hm, hl, fun i hi => ?_, fun i hi => ?_⟩
    · obtain ⟨b, off, rfl, hc⟩ := ints_at hcell (by omega)
      refine ⟨b, off, rfl, ?_⟩
      rw [hc i (by omega)]
      simp only [Int.toNat_of_nonneg (hb i hi).1]
    · have := hb i hi
      show (zs.getD i 0).toNat ≤ 255
      omega

theorem law3 (F : Interp) (s : ByteArray) (x : Int) (a1 a : Option Addr) (m cap1 n cap : Nat) (G : Nat → Nat) (w : World) (hm : m ≤ maxLen) (hn : n ≤ maxLen) (hcap : n ≤ cap) (hnil : a = none → n = 0 ∧ cap = 0) (hG : IsBytes w a n G)
    (bG : ∀ i, i < n → G i ≤ 255) (hF : F.told.answers w.tape) (hs : s.size ≤ 1000) (HN : Named w s) :
    Calls Tryf.prog 3 #[.int .u8 x, .slice a1 m cap1, .slice a n cap] w fun e w' => e = .returned (.bool true) ∧ Below w.heap.size w w' := by
  by_cases hb : 1048576 < m + n
  · exact law3_big x a1 a m cap1 n cap w hb hn hm
  · exact law3_in F s x a1 a m cap1 n cap G w (by omega) hcap hnil hG bG hF hs HN

theorem var?_below {P : Program} {B g : Nat} {W W' : World} {n : String} {cs : Array Value} (h : Below B W W') (hg : P.globalNamed n = some g) (hgB : g < B) (hv : W.var? P n = some cs) : W'.var? P n = some cs := by
  unfold World.var? at hv ⊢
  simp only [hg, Option.bind_some] at hv ⊢
  rw [h.block g hgB]
  exact hv

set_option maxRecDepth 100000 in
set_option maxHeartbeats 1600000 in
theorem lifted3 (os : Os) (started : os.Started) (H : Type) (enc : TypeId × Value → H) :
    ReturnsInTold none {} Tryf.checked os 3 .any Input.okWide ((OpenSpec.ofChange Rows.fnCertificateStatusUnmarshalAnyReceiverSpec).preRow enc Tryf.prog Tryf.f3 Rows.fnCertificateStatusUnmarshalAnyReceiverRow.domain false laid1)
      (fun F => ((OpenSpec.ofChange Rows.fnCertificateStatusUnmarshalAnyReceiverSpec).at F).post enc Tryf.prog Tryf.f3 false true false false) (aloneAtReturn Tryf.prog) nothingAlways := by
  refine returnsInTold_of_row (C := Tryf.checked) (s := OpenSpec.ofChange Rows.fnCertificateStatusUnmarshalAnyReceiverSpec) (by kernel_rfl) own started (by kernel_rfl) Tryf.func3
    (OpenSpec.witness_stopped_atRef (enc := enc) (C := Tryf.checked) false (World.doorLaid Tryf.prog 84 os) #[.int .u8 0, .slice none 0 0, .slice none 0 0] rfl (by kernel_rfl) (by kernel_rfl) (by kernel_rfl)
      ⟨⟨ChangeSpec.pre_of_preB (fuel := 8) (by kernel_rfl), door_met os _⟩, sizedMet_of_sizedB (fuel := 8) (by kernel_rfl)⟩) ?_
  intro F W base args ds gs before _ hF hval0 hW _ _ _ hL _
  have hval : ∀ (j : Nat) t v, Tryf.f3.params[j]? = some t → args[j]? = some v → Value.okWide Tryf.prog W .any base t v := hval0
  have hW' := hW
  obtain ⟨p, q, hA0, hV0, rfl, hfz, hnd⟩ := hW
  have hA : DataW.TrodAll enc Tryf.prog W 0 (fun _ => true) true Tryf.f3.params.toList args.toList ds p := hA0
  have hV : DataW.TrodVars enc Tryf.prog W (fun _ => true) [nm] gs q := hV0
  rw [Tryf.params3] at hA hval
  obtain ⟨v0, vs0, d0, ds0, p0, q0, hargs, rfl, rfl, h0, r0⟩ := trodAll_cons hA
  obtain ⟨v1, vs1, d1, ds1, p1, q1, rfl, rfl, rfl, h1, r1⟩ := trodAll_cons r0
  obtain ⟨v2, vs2, d2, ds2, p2, q2, rfl, rfl, rfl, h2, r2⟩ := trodAll_cons r1
  obtain ⟨rfl, rfl, rfl⟩ := trodAll_nil r2
  obtain rfl : args = #[v0, v1, v2] := by cases args; simp_all
  obtain ⟨g, t, cs, fuel, d, p', rfl, hg, ht, hvar, hd, rfl⟩ := trodVars_one hV
  obtain rfl := Option.some.inj (gNames.symm.trans hg)
  obtain rfl := Option.some.inj (tNames.symm.trans ht)
  obtain ⟨x0, rfl, rfl, rfl, w0⟩ := open_int Tryf.underlying5 (hval 0 5 v0 rfl rfl) h0
  obtain ⟨a1, len1, cap1, rfl⟩ := okWide_slice Tryf.underlying22 (hval 1 22 v1 rfl rfl)
  obtain ⟨a2, len2, cap2, rfl⟩ := okWide_slice Tryf.underlying22 (hval 2 22 v2 rfl rfl)
  have k1 := h1
  have k2 := h2
  have lt1 : ∀ x ∈ p1, x.block < W.heap.size := by obtain ⟨m, hm⟩ := k1; exact DataW.trod_lt m _ _ _ hm
  have lt2 : ∀ x ∈ p2, x.block < W.heap.size := by obtain ⟨m, hm⟩ := k2; exact DataW.trod_lt m _ _ _ hm
  have ltv : ∀ x ∈ p', x.block < W.heap.size := DataW.trod_lt fuel _ _ _ hd
  obtain ⟨_, _, hl1, _, _, _⟩ := open_bytes2 h1
  obtain ⟨G, hn2, hl2, hc2, hG, bG⟩ := open_bytes2 h2
  obtain ⟨s, hs, HN⟩ := of_laid hL
  clear hA0 hV0 hval0 hA hV
  refine (law3 F s x0 a1 a2 len1 cap1 len2 cap2 G W hl1 hl2 hc2 hn2 hG bG hF hs HN).mono fun e W' ⟨he, bel⟩ => ?_
  subst he
  have h0lt : 0 < W.heap.size := by
    unfold World.var? at hvar
    simp only [gNames, Option.bind_some] at hvar
    rcases Nat.lt_or_ge 0 W.heap.size with h | h
    · exact h
    · rw [Array.getElem?_eq_none h] at hvar; simp at hvar
  obtain ⟨o, hcs⟩ : ∃ o, cs = #[.map o] := by
    rcases open_map Tryf.underlying64 hd with ⟨hcs, _⟩ | ⟨bm, es, clock, m, _, hcs, _⟩
    · exact ⟨none, Array.eq_one_of_toList hcs⟩
    · exact ⟨some bm, Array.eq_one_of_toList hcs⟩
  subst hcs
  obtain ⟨fuel', hd'⟩ := Below.trod laidOut (by kernel_rfl) (of_decide_eq_true (by kernel_rfl)) (v := .map o) (⟨fuel, by simpa [Value.cells] using hd⟩ : DataW.Trod enc Tryf.prog W 0 (fun _ => true) true 64 (.map o) d p') bel ltv
  have hv' := trodVars_mk1 (enc := enc) (spare := fun b => decide (b < W.heap.size)) hg ht (var?_below bel hg h0lt hvar) (by simpa [Value.cells] using hd')
  have e1 : ((OpenSpec.ofChange Rows.fnCertificateStatusUnmarshalAnyReceiverSpec).at F.told).fn H ([.lit (.int .u8 x0), d1, d2] ++ [d]) = { results := [.lit (.bool true)], args := [.lit (.int .u8 x0), d1, d2], vars := [d] } := rfl
  refine ⟨_, rfl, _, _, _, [], ([] ++ (p1 ++ (p2 ++ []))), (MemPlace.row ⟨0, 0, none⟩ (#[.map o] : Array Value).size ++ p'), hW', ?_, ?_, ?_, bel.frame _, fun h => by cases h⟩
  · rw [e1]; exact trodAll_mk1 (shut_bool Tryf.underlying4 _)
  · rw [e1]; exact (trodAll_cons_mk (shut_int Tryf.underlying5 w0) (trodAll_cons_mk (Below.trod laidOut (by kernel_rfl) (of_decide_eq_true (by kernel_rfl)) k1 bel lt1) (trodAll_cons_mk (Below.trod laidOut (by kernel_rfl) (of_decide_eq_true (by kernel_rfl)) k2 bel lt2) trodAll_mk0)))
  · rw [e1]; exact hv'

theorem stops_eq : Tryf.pinned.checked.prog.stops = Rows.fnCertificateStatusUnmarshalAnyReceiverRow.stops := by kernel_rfl
theorem knobs_eq : Tryf.pinned.checked.prog.stopKnobs = [] := by kernel_rfl
theorem quiet_any (os : Os) : Stop.quiet Tryf.pinned.checked.prog os := by
  intro k hk
  rw [knobs_eq] at hk
  cases hk
def stopName : String := match Rows.fnCertificateStatusUnmarshalAnyReceiverRow.stops with | n :: _ => n | [] => ""

/-- THE TOLD AND TIED CARD. -/
theorem anyReceiver_card : Rows.FnCertificateStatusUnmarshalAnyReceiverToldSaid :=
  Claim7.holds_of_told_tied_any_at .later 3 Tryf.f3 stopName [] [] _ _ _ _ _ (by kernel_rfl) rfl rfl rfl laidOut (by kernel_rfl) rfl ⟨rfl, rfl, rfl, rfl, rfl, rfl, rfl⟩ rfl rfl (by kernel_rfl) (by kernel_rfl) Tryf.func3 (by kernel_rfl)
    (of_decide_eq_true (by kernel_rfl)) (of_decide_eq_true (by kernel_rfl)) stops_eq.symm rfl knobs_eq.symm (by kernel_rfl)
    (by kernel_rfl) (by kernel_rfl) (by kernel_rfl) (by kernel_rfl) (by kernel_rfl) (by kernel_rfl) (by kernel_rfl) (by kernel_rfl) (by kernel_rfl) rfl (by kernel_rfl) rfl rfl
    rfl rfl
    rfl (by kernel_rfl) (by kernel_rfl) (by kernel_rfl) (by decide) (by kernel_rfl) fnCertificateStatusUnmarshalAnyReceiver_row_tie
    (OpenClaim.moreEntering_of (by kernel_rfl) (by kernel_rfl) (by kernel_rfl) (by kernel_rfl) (by kernel_rfl) (by kernel_rfl) (by kernel_rfl) (by kernel_rfl) (by kernel_rfl) (by kernel_rfl))
    ⟨_, WideRow.started_initial, quiet_any _⟩
    (fun os started _ H enc _ => lifted3 os started H enc)
end Go.Proofs.Qxb6614227aFmt

import Derived.Test.Qxb6614227aFmtP0
namespace Go.Proofs.Qxb6614227aFmt
open Go.ChangeShapes Go.WideShapes Go.ChangeAt Go.RowKit Go.WideElems Go.Maps
open Go.Extern.Stop Go.Stop Go.Extern

theorem law4 (F : Interp) (s : ByteArray) (a a2 : Option Addr) (n cap m cap2 : Nat) (G E : Nat → Nat) (w : World) (hn : n ≤ maxLen) (hm : m ≤ maxLen) (hG : IsBytes w a n G) (hE : IsBytes w a2 m E)
    (bG : ∀ i, i < n → G i ≤ 255) (bE : ∀ i, i < m → E i ≤ 255) (hF : F.told.answers w.tape) (hs : s.size ≤ 1000) (HN : Named w s) :
    Calls Tryf.prog 4 #[.slice a n cap, .slice a2 m cap2] w fun e w' => e = .returned (.bool true) ∧ Below w.heap.size w w' := by
  by_cases hb : 1048576 < n + m
  · exact law4_big a a2 n cap m cap2 w hb hn hm
  by_cases h0 : n = 0
  · subst h0
    exact law4_empty a a2 cap m cap2 w (by omega)
  · obtain ⟨b, off, rfl, _⟩ := hG 0 (by omega)
    exact law4_in F s b off a2 n cap m cap2 G E w (by omega) (by omega) hG hE bG bE hF hs HN

theorem var?_below {P : Program} {B g : Nat} {W W' : World} {n : String} {cs : Array Value} (h : Below B W W') (hg : P.globalNamed n = some g) (hgB : g < B) (hv : W.var? P n = some cs) : W'.var? P n = some cs := by
  unfold World.var? at hv ⊢
  simp only [hg, Option.bind_some] at hv ⊢
  rw [h.block g hgB]
  exact hv

set_option maxRecDepth 100000 in
set_option maxHeartbeats 1600000 in
theorem lifted4 (os : Os) (started : os.Started) (H : Type) (enc : TypeId × Value → H) :
    ReturnsInTold none {} Tryf.checked os 4 .any Input.okWide ((OpenSpec.ofChange Rows.fnCertificateStatusUnmarshalTrailingBytesSpec).preRow enc Tryf.prog Tryf.f4 Rows.fnCertificateStatusUnmarshalTrailingBytesRow.domain false laid1)
      (fun F => ((OpenSpec.ofChange Rows.fnCertificateStatusUnmarshalTrailingBytesSpec).at F).post enc Tryf.prog Tryf.f4 false true false false) (aloneAtReturn Tryf.prog) nothingAlways := by
  refine returnsInTold_of_row (C := Tryf.checked) (s := OpenSpec.ofChange Rows.fnCertificateStatusUnmarshalTrailingBytesSpec) (by kernel_rfl) own started (by kernel_rfl) Tryf.func4
    (OpenSpec.witness_stopped_atRef (enc := enc) (C := Tryf.checked) false (World.doorLaid Tryf.prog 84 os) #[.slice none 0 0, .slice none 0 0] rfl (by kernel_rfl) (by kernel_rfl) (by kernel_rfl)
      ⟨⟨ChangeSpec.pre_of_preB (fuel := 8) (by kernel_rfl), door_met os _⟩, sizedMet_of_sizedB (fuel := 8) (by kernel_rfl)⟩) ?_
  intro F W base args ds gs before _ hF hval0 hW _ _ _ hL _
  have hval : ∀ (j : Nat) t v, Tryf.f4.params[j]? = some t → args[j]? = some v → Value.okWide Tryf.prog W .any base t v := hval0
  have hW' := hW
  obtain ⟨p, q, hA0, hV0, rfl, hfz, hnd⟩ := hW
  have hA : DataW.TrodAll enc Tryf.prog W 0 (fun _ => true) true Tryf.f4.params.toList args.toList ds p := hA0
  have hV : DataW.TrodVars enc Tryf.prog W (fun _ => true) [nm] gs q := hV0
  rw [Tryf.params4] at hA hval
  obtain ⟨v0, vs0, d0, ds0, p0, q0, hargs, rfl, rfl, h0, r0⟩ := trodAll_cons hA
  obtain ⟨v1, vs1, d1, ds1, p1, q1, rfl, rfl, rfl, h1, r1⟩ := trodAll_cons r0
  obtain ⟨rfl, rfl, rfl⟩ := trodAll_nil r1
  obtain rfl : args = #[v0, v1] := by cases args; simp_all
  obtain ⟨g, t, cs, fuel, d, p', rfl, hg, ht, hvar, hd, rfl⟩ := trodVars_one hV
  obtain rfl := Option.some.inj (gNames.symm.trans hg)
  obtain rfl := Option.some.inj (tNames.symm.trans ht)
  obtain ⟨a0, len0, cap0, rfl⟩ := okWide_slice Tryf.underlying22 (hval 0 22 v0 rfl rfl)
  obtain ⟨a1, len1, cap1, rfl⟩ := okWide_slice Tryf.underlying22 (hval 1 22 v1 rfl rfl)
  have k0 := h0
  have k1 := h1
  have lt0 : ∀ x ∈ p0, x.block < W.heap.size := by obtain ⟨m, hm⟩ := k0; exact DataW.trod_lt m _ _ _ hm
  have lt1 : ∀ x ∈ p1, x.block < W.heap.size := by obtain ⟨m, hm⟩ := k1; exact DataW.trod_lt m _ _ _ hm
  have ltv : ∀ x ∈ p', x.block < W.heap.size := DataW.trod_lt fuel _ _ _ hd
  obtain ⟨G, _, hl0, hG, bG⟩ := open_bytes h0
  obtain ⟨E, _, hl1, hE, bE⟩ := open_bytes h1
  obtain ⟨s, hs, HN⟩ := of_laid hL
  clear hA0 hV0 hval0 hA hV
  refine (law4 F s a0 a1 len0 cap0 len1 cap1 G E W hl0 hl1 hG hE bG bE hF hs HN).mono fun e W' ⟨he, bel⟩ => ?_
  subst he
  have h0lt : 0 < W.heap.size := by
    unfold World.var? at hvar
    simp only [gNames, Option.bind_some] at hvar
    rcases Nat.lt_or_ge 0 W.heap.size with h | h
    · exact h
    · rw [Array.getElem?_eq_none h] at hvar; simp at hvar
  obtain ⟨o, hcs⟩ : ∃ o, cs = #[.map o] := by
    rcases open_map Tryf.underlying64 hd with ⟨hcs, _⟩ | ⟨bm, es, clock, m, _, hcs, _⟩
    · exact ⟨none, Array.eq_one_of_toList hcs⟩
    · exact ⟨some bm, Array.eq_one_of_toList hcs⟩
  subst hcs
  obtain ⟨fuel', hd'⟩ := Below.trod laidOut (by kernel_rfl) (of_decide_eq_true (by kernel_rfl)) (v := .map o) (⟨fuel, by simpa [Value.cells] using hd⟩ : DataW.Trod enc Tryf.prog W 0 (fun _ => true) true 64 (.map o) d p') bel ltv
  have hv' := trodVars_mk1 (enc := enc) (spare := fun b => decide (b < W.heap.size)) hg ht (var?_below bel hg h0lt hvar) (by simpa [Value.cells] using hd')
  have e1 : ((OpenSpec.ofChange Rows.fnCertificateStatusUnmarshalTrailingBytesSpec).at F.told).fn H ([d0, d1] ++ [d]) = { results := [.lit (.bool true)], args := [d0, d1], vars := [d] } := rfl
  refine ⟨_, rfl, _, _, _, [], (p0 ++ (p1 ++ [])), (MemPlace.row ⟨0, 0, none⟩ (#[.map o] : Array Value).size ++ p'), hW', ?_, ?_, ?_, bel.frame _, fun h => by cases h⟩
  · rw [e1]; exact trodAll_mk1 (shut_bool Tryf.underlying4 _)
  · rw [e1]; exact (trodAll_cons_mk (Below.trod laidOut (by kernel_rfl) (of_decide_eq_true (by kernel_rfl)) k0 bel lt0) (trodAll_cons_mk (Below.trod laidOut (by kernel_rfl) (of_decide_eq_true (by kernel_rfl)) k1 bel lt1) trodAll_mk0))
  · rw [e1]; exact hv'

theorem stops_eq : Tryf.pinned.checked.prog.stops = Rows.fnCertificateStatusUnmarshalTrailingBytesRow.stops := by kernel_rfl
theorem knobs_eq : Tryf.pinned.checked.prog.stopKnobs = [] := by kernel_rfl
theorem quiet_any (os : Os) : Stop.quiet Tryf.pinned.checked.prog os := by
  intro k hk
  rw [knobs_eq] at hk
  cases hk
def stopName : String := match Rows.fnCertificateStatusUnmarshalTrailingBytesRow.stops with | n :: _ => n | [] => ""

/-- THE TOLD AND TIED CARD. -/
theorem trailing_card : Rows.FnCertificateStatusUnmarshalTrailingBytesToldSaid :=
  Claim7.holds_of_told_tied_any_at .later 4 Tryf.f4 stopName [] [] _ _ _ _ _ (by kernel_rfl) rfl rfl rfl laidOut (by kernel_rfl) rfl ⟨rfl, rfl, rfl, rfl, rfl, rfl, rfl⟩ rfl rfl (by kernel_rfl) (by kernel_rfl) Tryf.func4 (by kernel_rfl)
    (of_decide_eq_true (by kernel_rfl)) (of_decide_eq_true (by kernel_rfl)) stops_eq.symm rfl knobs_eq.symm (by kernel_rfl)
    (by kernel_rfl) (by kernel_rfl) (by kernel_rfl) (by kernel_rfl) (by kernel_rfl) (by kernel_rfl) (by kernel_rfl) (by kernel_rfl) (by kernel_rfl) rfl (by kernel_rfl) rfl rfl
    rfl rfl
    rfl (by kernel_rfl) (by kernel_rfl) (by kernel_rfl) (by decide) (by kernel_rfl) fnCertificateStatusUnmarshalTrailingBytes_row_tie
    (OpenClaim.moreEntering_of (by kernel_rfl) (by kernel_rfl) (by kernel_rfl) (by kernel_rfl) (by kernel_rfl) (by kernel_rfl) (by kernel_rfl) (by kernel_rfl) (by kernel_rfl) (by kernel_rfl))
    ⟨_, WideRow.started_initial, quiet_any _⟩
    (fun os started _ H enc _ => lifted4 os started H enc)
end Go.Proofs.Qxb6614227aFmt

import Derived.Test.Qxb6614227aFmtW7
namespace Go.Proofs.Qxb6614227aFmt
open Go.RowKit Go.Extern.Stop Go.Stop Go.Extern

/-- Behind an Unmarshal into a receiver that is new in wr: its two fields; all that was is as it was. -/
structure Got (wr w' : World) (t : Nat) (r : Value) : Prop where
  c0 : w'.cell? ⟨wr.heap.size, 0, none⟩ = some (.int .u8 t)
  c1 : w'.cell? ⟨wr.heap.size, 1, none⟩ = some r
  bel : Below wr.heap.size wr w'

theorem un9_new (F : Interp) (s : ByteArray) (g : Nat) (a : Option Addr) (n : Nat) (G : Nat → Nat) (w wr : World) (v0 v1 : Value) (hl : n ≤ 1048576) (hW : Below w.heap.size w wr) (ha : 0 < n → a = some ⟨g, 0, none⟩) (hc : ∀ i, i < n → wr.cell? ⟨g, i, none⟩ = some (.int .u8 (G i)))
    (hB : ∀ i, i < n → G i ≤ 255) (hF : F.told.answers w.tape) (hs : s.size ≤ 1000) (HN : Named w s) :
    Calls Tryf.prog 9 #[.pointer (some ⟨wr.heap.size, 0, none⟩), .slice a n n] (wr.alloc (.cells #[v0, v1] 29)) fun e w' =>
      (okB n G = true ∧ e = .returned .nilIface ∧ Got wr w' (tyOf n G) (respV g n G)) ∨ (okB n G = false ∧ (∃ V, e = .returned (.iface 37 (.pointer (some ⟨V, 0, none⟩)))) ∧ Got wr w' (tyOf n G) (.slice none 0 0)) := by
  have hb0 := (Below.refl wr.heap.size wr).alloc (Nat.le_refl _) (.cells #[v0, v1] 29)
  have hgot : ∀ {w' t r}, UOut (wr.alloc (.cells #[v0, v1] 29)) w' wr.heap.size t r → Got wr w' t r := fun {w' t r} h =>
    ⟨h.c0, h.c1, hb0.grown h.grown hb0.size (fun k hk => by simp at hk; omega)⟩
  refine (un9 F w s wr.heap.size g a n G _ hl ?_ ?_ ?_ hs HN ?_ hW.size).mono ?_
  · exact ⟨⟨_, World.cell?_alloc_new _ _ _ _⟩, ⟨_, World.cell?_alloc_new _ _ _ _⟩, World.frozen?_alloc_new _ _ _ _, World.frozen?_alloc_new _ _ _ _⟩
  · exact ⟨fun h0 => ⟨ha h0, Nat.ne_of_lt (lt_of_cell (hc 0 h0))⟩, fun i hi => cell_later hb0 (hc i hi), hB⟩
  · show F.told.answers wr.tape
    rw [hW.tape]; exact hF
  · exact hW.alloc hW.size _
  · rintro e w' (⟨h1, h2, h3⟩ | ⟨h1, h2, h3⟩)
    · exact .inl ⟨h1, h2, hgot h3⟩
    · exact .inr ⟨h1, h2, hgot h3⟩

theorem joinF_byte {n m T : Nat} {G E : Nat → Nat} (hG : ∀ i, i < n → G i ≤ 255) (hE : ∀ i, i < m → E i ≤ 255) (hT : T = n + m) : ∀ i, i < T → joinF n G E i ≤ 255 := by
  intro i hi
  unfold joinF
  split
  · exact hG i (by omega)
  · exact hE (i - n) (by omega)
theorem cell_heap {w w' : World} {a : Addr} {v : Value} (h : w'.heap = w.heap) (hc : w.cell? a = some v) : w'.cell? a = some v := by
  simpa only [World.cell?, h] using hc
theorem isBytes_heap {w w' : World} {a : Option Addr} {n : Nat} {G : Nat → Nat} (h : w'.heap = w.heap) (hB : IsBytes w a n G) : IsBytes w' a n G := by
  intro i hi
  obtain ⟨b, off, ha, hc⟩ := hB i hi
  exact ⟨b, off, ha, cell_heap h hc⟩

/-- zzOCSPTail at what an Unmarshal of the joined text J has left. -/
theorem tail_any {g n cap m cap2 T : Nat} {a a2 : Option Addr} {G E J : Nat → Nat} {r v : Value} {ok : Bool} {wz : World} (hT : T = n + m) (hl : n + m ≤ 1048576) (hG1 : J 0 = 1)
    (hr : (ok = true ∧ okB T J = true ∧ v = .nilIface ∧ r = respV g T J) ∨ (ok = false ∧ okB T J = false ∧ (∃ V, v = .iface 37 (.pointer (some ⟨V, 0, none⟩))) ∧ r = .slice none 0 0))
    (hJ : ∀ i, i < T → J i = joinF n G E i) (hc : ∀ i, i < T → wz.cell? ⟨g, i, none⟩ = some (.int .u8 (J i))) (hG : IsBytes wz a n G) (hE : IsBytes wz a2 m E) :
    Calls Tryf.prog 12 #[r, .bool ok, .slice a n cap, .slice a2 m cap2] wz fun e w' => e = .returned (.bool true) ∧ ∃ k, w' = wz.drewN k := by
  rcases hr with ⟨rfl, hok, _, rfl⟩ | ⟨rfl, hok, _, rfl⟩
  · have h4 : 4 < T := by
      simp only [okB, hG1, decide_eq_true_eq] at hok
      rcases hok with ⟨_, h | h⟩
      · exact absurd rfl h
      · exact h.1
    simp only [respV, hG1, if_true]
    refine tail_yes a a2 g n cap m cap2 (T - 4) G E wz hl (by omega) (by omega) hG hE (fun i hi => ?_)
    rw [hc (4 + i) (by omega), hJ (4 + i) (by omega)]
  · refine (tail_no a a2 n cap m cap2 wz).mono ?_
    rintro e w' ⟨rfl, rfl⟩
    exact ⟨rfl, 0, rfl⟩

theorem not_both {n m T : Nat} {G E : Nat → Nat} (h0 : 0 < n) (hT : T = n + m) (hG : G 0 = 1) (hm : 0 < m) (h1 : okB n G = true) (h2 : okB T (joinF n G E) = true) : False := by
  have e0 : joinF n G E 0 = G 0 := by rw [joinF, if_pos h0]
  simp only [okB, e0, hG, decide_eq_true_eq] at h1 h2
  rcases h1.2 with h | ⟨h4, h5⟩
  · exact h rfl
  · rcases h2.2 with h | ⟨_, h6⟩
    · exact h rfl
    · rw [show joinF n G E 1 = G 1 by rw [joinF, if_pos (by omega)], show joinF n G E 2 = G 2 by rw [joinF, if_pos (by omega)], show joinF n G E 3 = G 3 by rw [joinF, if_pos (by omega)]] at h6
      omega
theorem quiet_of_draw {P : Program} {f : FuncId} {args : Array Value} {w : World} {n : Nat} {v : Value} (h : Calls P f args (w.drewN n) fun e w' => e = .returned v ∧ ∃ k, w' = (w.drewN n).drewN k) :
    Calls P f args (w.drewN n) fun e w'' => e = .returned v ∧ ∃ m, w'' = w.drewN m :=
  h.mono fun _ _ ⟨he, k, hk⟩ => ⟨he, n + k, by rw [hk, World.drewN_drewN]⟩

set_option maxHeartbeats 800000 in
theorem bytes11_yes (a a2 : Option Addr) (n cap m cap2 : Nat) (w : World) (h : n + m ≤ 1048576) :
    Calls Tryf.prog 11 #[.slice a n cap, .slice a2 m cap2] w fun e w' => e = .returned (.bool true) ∧ w' = w := by
  go_enter Tryf.func11, Tryf.ntmps11
  go_wp2
  go_ret
  exact ⟨rfl, rfl⟩
set_option maxHeartbeats 800000 in
theorem bytes11_no (a a2 : Option Addr) (n cap m cap2 : Nat) (w : World) (h : 1048576 < n + m) (hn : n ≤ maxLen) (hm : m ≤ maxLen) :
    Calls Tryf.prog 11 #[.slice a n cap, .slice a2 m cap2] w fun e w' => e = .returned (.bool false) ∧ w' = w := by
  unfold maxLen at hn hm
  go_enter Tryf.func11, Tryf.ntmps11
  go_wp2
  all_goals
    go_ret
    exact ⟨rfl, rfl⟩

set_option maxHeartbeats 800000 in
theorem law4_big (a a2 : Option Addr) (n cap m cap2 : Nat) (w : World) (h : 1048576 < n + m) (hn : n ≤ maxLen) (hm : m ≤ maxLen) :
    Calls Tryf.prog 4 #[.slice a n cap, .slice a2 m cap2] w fun e w' => e = .returned (.bool true) ∧ Below w.heap.size w w' := by
  go_enter Tryf.func4, Tryf.ntmps4
  go_wp2_with fail
  refine (bytes11_no a a2 n cap m cap2 w h hn hm).mono ?_
  rintro e w' ⟨rfl, rfl⟩
  go_wp2_with fail
  go_ret
  exact ⟨rfl, Below.refl _ _⟩
set_option maxHeartbeats 800000 in
theorem law4_empty (a a2 : Option Addr) (cap m cap2 : Nat) (w : World) (h : m ≤ 1048576) :
    Calls Tryf.prog 4 #[.slice a 0 cap, .slice a2 m cap2] w fun e w' => e = .returned (.bool true) ∧ Below w.heap.size w w' := by
  go_enter Tryf.func4, Tryf.ntmps4
  go_wp2_with fail
  refine (bytes11_yes a a2 0 cap m cap2 w (by omega)).mono ?_
  rintro e w' ⟨rfl, rfl⟩
  go_wp2_with fail
  go_ret
  exact ⟨rfl, Below.refl _ _⟩

set_option maxHeartbeats 3200000 in
set_option maxRecDepth 100000 in
theorem law4_in (F : Interp) (s : ByteArray) (b off : Nat) (a2 : Option Addr) (n cap m cap2 : Nat) (G E : Nat → Nat) (w : World) (h0 : 0 < n) (hnm : n + m ≤ 1048576) (hG : IsBytes w (some ⟨b, off, none⟩) n G) (hE : IsBytes w a2 m E)
    (bG : Hid (∀ i, i < n → G i ≤ 255)) (bE : Hid (∀ i, i < m → E i ≤ 255)) (hF : Hid (F.told.answers w.tape)) (hs : s.size ≤ 1000) (HN : Hid (Named w s)) :
    Calls Tryf.prog 4 #[.slice (some ⟨b, off, none⟩) n cap, .slice a2 m cap2] w fun e w' => e = .returned (.bool true) ∧ Below w.heap.size w w' := by
  obtain ⟨i0, hi, hz0, hz1, hz2⟩ := info_parts Tryf.info5
  obtain ⟨T, hT⟩ : ∃ T, T = n + m := ⟨_, rfl⟩
  have hbytes : Hid (i0.bytes * T ≤ 281474976710656) := by show _ ≤ _; rw [hz2]; omega
  have hmax : Hid (T ≤ maxLen) := by show _ ≤ _; unfold maxLen; omega
  have hTi : (n : Int) + (m : Int) = (T : Int) := by omega
  have HT : Hid (T = n + m) := hT
  clear hT
  have HG : Hid _ := hG
  have HE : Hid _ := hE
  clear hG hE
  go_enter Tryf.func4, Tryf.ntmps4
  go_wp2_with fail
  refine (bytes11_yes _ a2 n cap m cap2 w hnm).mono ?_
  rintro e w' ⟨rfl, hw⟩
  obtain rfl := hw.symm
  go_wp2_with fail
  refine (clone7 ⟨b, off, none⟩ n cap G w (by omega) HG.out).mono ?_
  rintro e w1 ⟨rfl, hF1, hlt1⟩
  have HF1 : Hid _ := hF1
  clear hF1
  go_wp2_with (at_make; refine wpList_make_full _ rfl _ _ 22 rfl w1.heap.size 5 i0 (.int .u8 0) 1 Tryf.underlying22 hi hz0 hz1 _ _ _ _ T rfl rfl (by omega) (by omega) hbytes.out hmax.out (Nat.le_refl _) ?_; intro w2 hown hgrow)
  obtain ⟨hF2, hlt2⟩ := fill_start (joinF n G E) hown ((Below.refl _ _).grown hgrow (Nat.le_refl _) (fun k h => by cases h))
  have HGo : Hid (∀ wr, Below w1.heap.size w1 wr → IsBytes wr (some ⟨b, off, none⟩) n G) := fun wr hb => isBytes_below (isBytes_below HG.out HF1.out.bel) hb
  have HEo : Hid (∀ wr, Below w1.heap.size w1 wr → IsBytes wr a2 m E) := fun wr hb => isBytes_below (isBytes_below HE.out HF1.out.bel) hb
  clear hown hgrow hbytes hmax hw
  go_loopw [7] (fun i wr => ∃ k : Nat, k ≤ n ∧ i = .int .i64 k ∧ Fill w1 wr w1.heap.size T k (joinF n G E) ∧ w1.heap.size < wr.heap.size) (fun i _ => n - (intOf i).toNat)
  case atStart => exact ⟨0, by omega, rfl, hF2, hlt2⟩
  case round =>
    obtain ⟨k, hk, rfl, hFk, hltk⟩ := hrel
    by_cases hlt : k < n
    · have hck := isBytes_at (HGo.out wr hFk.bel) hlt
      obtain ⟨v, hv⟩ := hFk.cell k (by omega)
      have hfz := hFk.froz k (by omega)
      have hN := hFk.step (Nat.le_refl _) (by omega)
      rw [show joinF n G E k = G k by simp [joinF, hlt]] at hN
      have HN' : Hid _ := hN
      have hTk : (k : Int) < (T : Int) := by omega
      clear hFk hF2 hN
      go_wp2_with fail
      go_roundw
      case rel => exact ⟨k + 1, by omega, by go_num, HN'.out, by simpa [World.setCell] using hltk⟩
      case measure => simp [intOf]; omega
    · obtain rfl : n = k := by omega
      clear hF2 hlt2 hk hlt
      go_wp2_with fail
      go_loopw [8] (fun i wq => ∃ k : Nat, k ≤ m ∧ i = .int .i64 k ∧ Fill w1 wq w1.heap.size T (n + k) (joinF n G E) ∧ w1.heap.size < wq.heap.size) (fun i _ => m - (intOf i).toNat)
      case atStart => exact ⟨0, by omega, rfl, hFk, hltk⟩
      case round =>
        clear hFk hltk
        obtain ⟨k, hk, rfl, hFk, hltk⟩ := hrel
        by_cases hlt : k < m
        · obtain ⟨b2, off2, rfl, hck⟩ := HEo.out _ hFk.bel k hlt
          obtain ⟨v, hv⟩ := hFk.cell (n + k) (by omega)
          have hfz := hFk.froz (n + k) (by omega)
          have hN := hFk.step (Nat.le_refl _) (by omega)
          rw [show joinF n G E (n + k) = E k by rw [joinF, if_neg (by omega), Nat.add_sub_cancel_left]] at hN
          have HN' : Hid _ := hN
          have hTk : (n : Int) + (k : Int) < (T : Int) := by omega
          clear hFk hN
          go_wp2_with fail
          go_roundw
          case rel => exact ⟨k + 1, by omega, by go_num, HN'.out, by simpa [World.setCell] using hltk⟩
          case measure => simp [intOf]; omega
        · obtain rfl : m = k := by omega
          have HWr : Hid (Below w.heap.size w wr) := HF1.out.bel.trans (hFk.bel.mono HF1.out.bel.size)
          have HCl : Hid (∀ i, i < n → wr.cell? ⟨w.heap.size, i, none⟩ = some (.int .u8 (G i))) := fun i hi => cell_later hFk.bel (HF1.out.done i hi)
          have HJo : Hid (∀ i, i < T → wr.cell? ⟨w1.heap.size, i, none⟩ = some (.int .u8 (joinF n G E i))) := fun i hi => hFk.done i (by omega)
          have HGw : Hid _ := HGo.out wr hFk.bel
          have HEw : Hid _ := HEo.out wr hFk.bel
          clear hFk hltk HGo HEo HF1 hlt hk
          go_wp2_with fail
          refine (un9_new F s w.heap.size (some ⟨w.heap.size, 0, none⟩) n G w wr _ _ (by omega) HWr.out (fun _ => rfl) HCl.out bG.out hF.out hs HN.out).mono ?_
          rintro e w3 H1
          obtain ⟨e1, r1, ok1, rfl, hg1, hr1⟩ : ∃ v r ok, e = .returned v ∧ Hid (Got wr w3 (tyOf n G) r) ∧ Hid ((ok = true ∧ okB n G = true ∧ v = .nilIface ∧ r = respV w.heap.size n G) ∨ (ok = false ∧ okB n G = false ∧ (∃ V, v = .iface 37 (.pointer (some ⟨V, 0, none⟩))) ∧ r = .slice none 0 0)) := by
            rcases H1 with ⟨h1, rfl, h3⟩ | ⟨h1, ⟨V, rfl⟩, h3⟩
            · exact ⟨_, _, true, rfl, h3, .inl ⟨rfl, h1, rfl, rfl⟩⟩
            · exact ⟨_, _, false, rfl, h3, .inr ⟨rfl, h1, ⟨V, rfl⟩, rfl⟩⟩
          clear H1
          go_wp2_with fail
          refine (un9_new F s w1.heap.size (some ⟨w1.heap.size, 0, none⟩) T (joinF n G E) w w3 _ _ (by omega) (HWr.out.trans (hg1.out.bel.mono HWr.out.size)) (fun _ => rfl) (fun i hi => cell_later hg1.out.bel (HJo.out i hi)) (joinF_byte bG.out bE.out HT.out) hF.out hs HN.out).mono ?_
          rintro e w4 H2
          obtain ⟨e2, r2, ok2, rfl, hg2, hr2⟩ : ∃ v r ok, e = .returned v ∧ Hid (Got w3 w4 (tyOf T (joinF n G E)) r) ∧ Hid ((ok = true ∧ okB T (joinF n G E) = true ∧ v = .nilIface ∧ r = respV w1.heap.size T (joinF n G E)) ∨ (ok = false ∧ okB T (joinF n G E) = false ∧ (∃ V, v = .iface 37 (.pointer (some ⟨V, 0, none⟩))) ∧ r = .slice none 0 0)) := by
            rcases H2 with ⟨h1, rfl, h3⟩ | ⟨h1, ⟨V, rfl⟩, h3⟩
            · exact ⟨_, _, true, rfl, h3, .inl ⟨rfl, h1, rfl, rfl⟩⟩
            · exact ⟨_, _, false, rfl, h3, .inr ⟨rfl, h1, ⟨V, rfl⟩, rfl⟩⟩
          clear H2
          have h34 := hg1.out.bel.trans (hg2.out.bel.mono hg1.out.bel.size)
          have HW4 : Hid (Below w.heap.size w w4) := HWr.out.trans (h34.mono HWr.out.size)
          have c10 := cell_later hg2.out.bel hg1.out.c0
          have c11 := cell_later hg2.out.bel hg1.out.c1
          have c20 := hg2.out.c0
          have c21 := hg2.out.c1
          rw [show tyOf n G = G 0 by rw [tyOf, if_neg (by omega)]] at c10
          rw [show tyOf T (joinF n G E) = G 0 by rw [tyOf, if_neg (by omega), joinF, if_pos h0]] at c20
          have cb := cell_later h34 (isBytes_at HGw.out h0)
          rw [Nat.add_zero] at cb
          have K1 : Hid (G 0 = 1 → ∀ wz : World, wz.heap = w4.heap → Calls Tryf.prog 12 #[r1, .bool ok1, .slice (some ⟨b, off, none⟩) n cap, .slice none 0 0] wz fun e w' => e = .returned (.bool true) ∧ ∃ k, w' = wz.drewN k) := by
            intro hG1 wz hz
            exact tail_any (E := fun _ => 0) (m := 0) (cap2 := 0) (a2 := none) rfl (by omega) hG1 hr1.out (fun i hi => by rw [joinF, if_pos (show i < n from hi)]) (fun i hi => cell_heap hz (cell_later h34 (HCl.out i hi))) (isBytes_heap hz (isBytes_below HGw.out h34)) (fun i hi => by omega)
          have K2 : Hid (G 0 = 1 → ∀ wz : World, wz.heap = w4.heap → Calls Tryf.prog 12 #[r2, .bool ok2, .slice (some ⟨b, off, none⟩) n cap, .slice a2 m cap2] wz fun e w' => e = .returned (.bool true) ∧ ∃ k, w' = wz.drewN k) := by
            intro hG1 wz hz
            exact tail_any HT.out hnm (by rw [joinF, if_pos h0]; exact hG1) hr2.out (fun i hi => rfl) (fun i hi => cell_heap hz (cell_later h34 (HJo.out i hi))) (isBytes_heap hz (isBytes_below HGw.out h34)) (isBytes_heap hz (isBytes_below HEw.out h34))
          have HR1 : Hid _ := hr1.out
          have HR2 : Hid _ := hr2.out
          have hnb : Hid (G 0 = 1 → 0 < m → okB n G = true → okB T (joinF n G E) = true → False) := fun a b c d => not_both h0 HT.out a b c d
          clear hr1 hr2 hg1 hg2 h34 HGw HEw HCl HJo HWr bG bE hF HN HG HE hlt1
          by_cases hG1 : G 0 = 1
          · have L1 : Hid _ := K1.out hG1
            have L2 : Hid _ := K2.out hG1
            rw [hG1] at c10 c20 cb
            clear K1 K2
            rcases HR1.out with ⟨rfl, h1, rfl, -⟩ | ⟨rfl, h1, ⟨V1, rfl⟩, -⟩
            · rcases HR2.out with ⟨rfl, h2, rfl, -⟩ | ⟨rfl, h2, ⟨V2, rfl⟩, -⟩
              · have hm : ¬ 0 < m := fun hm => hnb.out hG1 hm h1 h2
                clear HR1 HR2 hnb hG1 h1 h2
                go_wp2_with fail
                go_quiet (fail)
                go_wp2_with fail
                obtain ⟨wz, hz⟩ : ∃ wz, Hid (wz = w4.drewN nq) := ⟨_, rfl⟩
                rw [← hz.out]
                have hh : Hid (wz.heap = w4.heap) := by rw [hz.out]; rfl
                replace c11 := cell_heap hh.out c11
                replace c21 := cell_heap hh.out c21
                have HB5 : Hid (Below w.heap.size w wz) := by rw [hz.out]; exact below_drewN HW4.out _
                clear c10 c20 cb hz HW4
                go_quiet ((go_at_call 12; exact quiet_of_draw (L1.out _ hh.out)))
                go_wp2_with fail
                obtain ⟨wy, hy⟩ : ∃ wy, Hid (wy = wz.drewN nq) := ⟨_, rfl⟩
                rw [← hy.out]
                have hh2 : Hid (wy.heap = w4.heap) := by rw [hy.out]; exact hh.out
                replace c21 := cell_heap (show wy.heap = wz.heap by rw [hy.out]; rfl) c21
                have HB6 : Hid (Below w.heap.size w wy) := by rw [hy.out]; exact below_drewN HB5.out _
                clear c11 hy HB5 hh
                go_quiet ((go_at_call 12; exact quiet_of_draw (L2.out _ hh2.out)))
                go_wp2_with fail
                go_ret
                exact ⟨rfl, below_drewN HB6.out _⟩
              · skip
                clear HR1 HR2 hnb hG1 h1 h2
                by_cases hm : 0 < m
                · go_wp2_with fail
                  go_quiet (fail)
                  go_wp2_with fail
                  obtain ⟨wz, hz⟩ : ∃ wz, Hid (wz = w4.drewN nq) := ⟨_, rfl⟩
                  rw [← hz.out]
                  have hh : Hid (wz.heap = w4.heap) := by rw [hz.out]; rfl
                  replace c11 := cell_heap hh.out c11
                  replace c21 := cell_heap hh.out c21
                  have HB5 : Hid (Below w.heap.size w wz) := by rw [hz.out]; exact below_drewN HW4.out _
                  clear c10 c20 cb hz HW4
                  go_quiet ((go_at_call 12; exact quiet_of_draw (L1.out _ hh.out)))
                  go_wp2_with fail
                  obtain ⟨wy, hy⟩ : ∃ wy, Hid (wy = wz.drewN nq) := ⟨_, rfl⟩
                  rw [← hy.out]
                  have hh2 : Hid (wy.heap = w4.heap) := by rw [hy.out]; exact hh.out
                  replace c21 := cell_heap (show wy.heap = wz.heap by rw [hy.out]; rfl) c21
                  have HB6 : Hid (Below w.heap.size w wy) := by rw [hy.out]; exact below_drewN HB5.out _
                  clear c11 hy HB5 hh
                  go_quiet ((go_at_call 12; exact quiet_of_draw (L2.out _ hh2.out)))
                  go_wp2_with fail
                  go_ret
                  exact ⟨rfl, below_drewN HB6.out _⟩
                · go_wp2_with fail
                  go_quiet (fail)
                  go_wp2_with fail
                  obtain ⟨wz, hz⟩ : ∃ wz, Hid (wz = w4.drewN nq) := ⟨_, rfl⟩
                  rw [← hz.out]
                  have hh : Hid (wz.heap = w4.heap) := by rw [hz.out]; rfl
                  replace c11 := cell_heap hh.out c11
                  replace c21 := cell_heap hh.out c21
                  have HB5 : Hid (Below w.heap.size w wz) := by rw [hz.out]; exact below_drewN HW4.out _
                  clear c10 c20 cb hz HW4
                  go_quiet ((go_at_call 12; exact quiet_of_draw (L1.out _ hh.out)))
                  go_wp2_with fail
                  obtain ⟨wy, hy⟩ : ∃ wy, Hid (wy = wz.drewN nq) := ⟨_, rfl⟩
                  rw [← hy.out]
                  have hh2 : Hid (wy.heap = w4.heap) := by rw [hy.out]; exact hh.out
                  replace c21 := cell_heap (show wy.heap = wz.heap by rw [hy.out]; rfl) c21
                  have HB6 : Hid (Below w.heap.size w wy) := by rw [hy.out]; exact below_drewN HB5.out _
                  clear c11 hy HB5 hh
                  go_quiet ((go_at_call 12; exact quiet_of_draw (L2.out _ hh2.out)))
                  go_wp2_with fail
                  go_ret
                  exact ⟨rfl, below_drewN HB6.out _⟩
            · rcases HR2.out with ⟨rfl, h2, rfl, -⟩ | ⟨rfl, h2, ⟨V2, rfl⟩, -⟩
              · skip
                clear HR1 HR2 hnb hG1 h1 h2
                by_cases hm : 0 < m
                · go_wp2_with fail
                  go_quiet (fail)
                  go_wp2_with fail
                  obtain ⟨wz, hz⟩ : ∃ wz, Hid (wz = w4.drewN nq) := ⟨_, rfl⟩
                  rw [← hz.out]
                  have hh : Hid (wz.heap = w4.heap) := by rw [hz.out]; rfl
                  replace c11 := cell_heap hh.out c11
                  replace c21 := cell_heap hh.out c21
                  have HB5 : Hid (Below w.heap.size w wz) := by rw [hz.out]; exact below_drewN HW4.out _
                  clear c10 c20 cb hz HW4
                  go_quiet ((go_at_call 12; exact quiet_of_draw (L1.out _ hh.out)))
                  go_wp2_with fail
                  obtain ⟨wy, hy⟩ : ∃ wy, Hid (wy = wz.drewN nq) := ⟨_, rfl⟩
                  rw [← hy.out]
                  have hh2 : Hid (wy.heap = w4.heap) := by rw [hy.out]; exact hh.out
                  replace c21 := cell_heap (show wy.heap = wz.heap by rw [hy.out]; rfl) c21
                  have HB6 : Hid (Below w.heap.size w wy) := by rw [hy.out]; exact below_drewN HB5.out _
                  clear c11 hy HB5 hh
                  go_quiet ((go_at_call 12; exact quiet_of_draw (L2.out _ hh2.out)))
                  go_wp2_with fail
                  go_ret
                  exact ⟨rfl, below_drewN HB6.out _⟩
                · go_wp2_with fail
                  go_quiet (fail)
                  go_wp2_with fail
                  obtain ⟨wz, hz⟩ : ∃ wz, Hid (wz = w4.drewN nq) := ⟨_, rfl⟩
                  rw [← hz.out]
                  have hh : Hid (wz.heap = w4.heap) := by rw [hz.out]; rfl
                  replace c11 := cell_heap hh.out c11
                  replace c21 := cell_heap hh.out c21
                  have HB5 : Hid (Below w.heap.size w wz) := by rw [hz.out]; exact below_drewN HW4.out _
                  clear c10 c20 cb hz HW4
                  go_quiet ((go_at_call 12; exact quiet_of_draw (L1.out _ hh.out)))
                  go_wp2_with fail
                  obtain ⟨wy, hy⟩ : ∃ wy, Hid (wy = wz.drewN nq) := ⟨_, rfl⟩
                  rw [← hy.out]
                  have hh2 : Hid (wy.heap = w4.heap) := by rw [hy.out]; exact hh.out
                  replace c21 := cell_heap (show wy.heap = wz.heap by rw [hy.out]; rfl) c21
                  have HB6 : Hid (Below w.heap.size w wy) := by rw [hy.out]; exact below_drewN HB5.out _
                  clear c11 hy HB5 hh
                  go_quiet ((go_at_call 12; exact quiet_of_draw (L2.out _ hh2.out)))
                  go_wp2_with fail
                  go_ret
                  exact ⟨rfl, below_drewN HB6.out _⟩
              · skip
                clear HR1 HR2 hnb hG1 h1 h2
                by_cases hm : 0 < m
                · go_wp2_with fail
                  go_quiet (fail)
                  go_wp2_with fail
                  obtain ⟨wz, hz⟩ : ∃ wz, Hid (wz = w4.drewN nq) := ⟨_, rfl⟩
                  rw [← hz.out]
                  have hh : Hid (wz.heap = w4.heap) := by rw [hz.out]; rfl
                  replace c11 := cell_heap hh.out c11
                  replace c21 := cell_heap hh.out c21
                  have HB5 : Hid (Below w.heap.size w wz) := by rw [hz.out]; exact below_drewN HW4.out _
                  clear c10 c20 cb hz HW4
                  go_quiet ((go_at_call 12; exact quiet_of_draw (L1.out _ hh.out)))
                  go_wp2_with fail
                  obtain ⟨wy, hy⟩ : ∃ wy, Hid (wy = wz.drewN nq) := ⟨_, rfl⟩
                  rw [← hy.out]
                  have hh2 : Hid (wy.heap = w4.heap) := by rw [hy.out]; exact hh.out
                  replace c21 := cell_heap (show wy.heap = wz.heap by rw [hy.out]; rfl) c21
                  have HB6 : Hid (Below w.heap.size w wy) := by rw [hy.out]; exact below_drewN HB5.out _
                  clear c11 hy HB5 hh
                  go_quiet ((go_at_call 12; exact quiet_of_draw (L2.out _ hh2.out)))
                  go_wp2_with fail
                  go_ret
                  exact ⟨rfl, below_drewN HB6.out _⟩
                · go_wp2_with fail
                  go_quiet (fail)
                  go_wp2_with fail
                  obtain ⟨wz, hz⟩ : ∃ wz, Hid (wz = w4.drewN nq) := ⟨_, rfl⟩
                  rw [← hz.out]
                  have hh : Hid (wz.heap = w4.heap) := by rw [hz.out]; rfl
                  replace c11 := cell_heap hh.out c11
                  replace c21 := cell_heap hh.out c21
                  have HB5 : Hid (Below w.heap.size w wz) := by rw [hz.out]; exact below_drewN HW4.out _
                  clear c10 c20 cb hz HW4
                  go_quiet ((go_at_call 12; exact quiet_of_draw (L1.out _ hh.out)))
                  go_wp2_with fail
                  obtain ⟨wy, hy⟩ : ∃ wy, Hid (wy = wz.drewN nq) := ⟨_, rfl⟩
                  rw [← hy.out]
                  have hh2 : Hid (wy.heap = w4.heap) := by rw [hy.out]; exact hh.out
                  replace c21 := cell_heap (show wy.heap = wz.heap by rw [hy.out]; rfl) c21
                  have HB6 : Hid (Below w.heap.size w wy) := by rw [hy.out]; exact below_drewN HB5.out _
                  clear c11 hy HB5 hh
                  go_quiet ((go_at_call 12; exact quiet_of_draw (L2.out _ hh2.out)))
                  go_wp2_with fail
                  go_ret
                  exact ⟨rfl, below_drewN HB6.out _⟩
          · have hk1 : okB n G = true := by simp [okB, hG1, h0]
            have hk2 : okB T (joinF n G E) = true := by
              have : joinF n G E 0 = G 0 := by rw [joinF, if_pos h0]
              simp only [okB, this, decide_eq_true_eq]
              exact ⟨by omega, .inl hG1⟩
            rcases HR1.out with ⟨rfl, h1, rfl, hq1⟩ | ⟨rfl, h1, -⟩
            · rcases HR2.out with ⟨rfl, h2, rfl, hq2⟩ | ⟨rfl, h2, -⟩
              · rw [respV, if_neg hG1] at hq1
                rw [respV, joinF, if_pos h0, if_neg hG1] at hq2
                subst hq1
                subst hq2
                clear HR1 HR2 hnb h1 h2 K1 K2 hk1 hk2
                have hnil := fun w => Lib.run_eql_slice_nil (P := Tryf.prog) w 22 5 none 0 0 0 0 Tryf.underlying22
                have hx1 : ((G 0 : Int) != 1) = true := by simp; omega
                have hxx : ((G 0 : Int) != (G 0 : Int)) = false := by simp
                generalize G 0 = x at *
                clear hG1
                go_wp2_with fail
                go_quiet (fail)
                go_wp2_with fail
                go_ret
                exact ⟨rfl, below_drewN HW4.out _⟩
              · rw [hk2] at h2; cases h2
            · rw [hk1] at h1; cases h1
end Go.Proofs.Qxb6614227aFmt

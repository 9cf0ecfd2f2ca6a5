import Derived.Test.Qxb6613651aDoorW4
import Derived.Deep.Light
namespace Go.Proofs.Qxb6613651aDoor
open Go.RowKit

def dpPre : ByteArray := ⟨#[100, 101, 108, 105, 118, 101, 114, 121, 45, 112, 114, 111, 116, 111, 99, 111, 108, 115, 91]⟩
theorem keyOf_list (m : Nat) : (keyOf m).data.toList = dpPre.data.toList ++ (Lib.decDigits m ++ [93]) := by
  simp [keyOf, ByteArray.data_append, dpKey, dpPre]
theorem keyOf_size (m : Nat) : (keyOf m).size = 20 + Lib.nDigits m := by
  have := congrArg List.length (keyOf_list m)
  have h : dpPre.data.toList.length = 19 := by decide
  rw [Array.length_toList, List.length_append, List.length_append, h, Lib.decDigits_length] at this
  show (keyOf m).data.size = _
  rw [this]; simp; omega
theorem keyOf_get (m k : Nat) (h : k < (keyOf m).size) : (keyOf m)[k] = (dpPre.data.toList ++ (Lib.decDigits m ++ [93]))[k]'(by rw [← keyOf_list]; simpa using h) := by
  have : (keyOf m)[k] = (keyOf m).data.toList[k]'(by simpa using h) := rfl
  rw [this]
  congr 1

/-- s is the key of place m: the walk sees a variable. -/
def IsKey (s : ByteArray) (m : Nat) : Prop := s = keyOf m
section
variable {s : ByteArray} {m : Nat}
theorem IsKey.size (h : IsKey s m) : s.size = 20 + Lib.nDigits m := by cases h; exact keyOf_size m
theorem IsKey.dsize (h : IsKey s m) : (s.extract 19 (s.size - 1)).size = Lib.nDigits m := by
  have := h.size
  have e : (s.extract 19 (s.size - 1)).size = s.size - 1 - 19 := by simp
  omega
theorem IsKey.dpos (h : IsKey s m) : 0 < (s.extract 19 (s.size - 1)).size := by rw [h.dsize]; exact Lib.nDigits_pos m
theorem IsKey.last (hK : IsKey s m) (h : s.size - 1 < s.size) : (s[s.size - 1]'h).toNat = 93 := by
  cases hK
  rw [keyOf_get, List.getElem_append_right (by rw [keyOf_size]; simp [dpPre]), List.getElem_append_right (by rw [keyOf_size, Lib.decDigits_length]; simp [dpPre])]
  simp
theorem IsKey.pre (hK : IsKey s m) (k : Nat) (h : k < s.size) (h' : k < dpPre.size) : s[k] = dpPre[k] := by
  cases hK
  rw [keyOf_get, List.getElem_append_left (by simpa using h')]
  rfl
theorem IsKey.dig (hK : IsKey s m) (k : Nat) (h : k < (s.extract 19 (s.size - 1)).size) : ((s.extract 19 (s.size - 1))[k]).toNat = 48 + m / 10 ^ (Lib.nDigits m - 1 - k) % 10 := by
  cases hK
  have hk : k < Lib.nDigits m := by
    have := keyOf_size m
    simp at h
    omega
  rw [ByteArray.getElem_extract, keyOf_get, List.getElem_append_right (by simp [dpPre]), List.getElem_append_left (by rw [Lib.decDigits_length]; simp [dpPre]; omega)]
  have e2 : ∀ (j : Nat) (hj : j < (Lib.decDigits m).length), (Lib.decDigits m)[j].toNat = 48 + m / 10 ^ (Lib.nDigits m - 1 - j) % 10 := by
    intro j hj
    simp only [Lib.decDigits_eq m, List.getElem_map, List.getElem_range, Lib.dg]
    rw [UInt8.toNat_ofNat', Nat.mod_eq_of_lt (by omega)]
  rw [e2]
  congr 5
  simp [dpPre]
theorem pow_le_self : ∀ u, 1 ≤ u → 10 ^ (Lib.nDigits u - 1) ≤ u := by
  intro u
  induction u using Nat.strongRecOn with
  | _ u ih =>
    intro h1
    by_cases hu : u < 10
    · rw [Lib.nDigits_small hu]; simpa using h1
    · rw [Lib.nDigits_big hu]
      have := ih (u / 10) (by omega) (by omega)
      have hp := Lib.nDigits_pos (u / 10)
      rw [show Lib.nDigits (u / 10) + 1 - 1 = (Lib.nDigits (u / 10) - 1) + 1 by omega, Nat.pow_succ]
      omega
theorem IsKey.first (hK : IsKey s m) (hd : 1 < Lib.nDigits m) (h : 0 < (s.extract 19 (s.size - 1)).size) : ((s.extract 19 (s.size - 1))[0]).toNat ≠ 48 := by
  rw [hK.dig]
  have h1 : 1 ≤ m := by
    rcases Nat.eq_zero_or_pos m with e | e
    · subst e; rw [Lib.nDigits_small (by decide)] at hd; omega
    · exact e
  have hlo := pow_le_self m h1
  have hhi := Lib.lt_pow_nDigits m
  have hp : 0 < 10 ^ (Lib.nDigits m - 1) := Nat.pow_pos (by decide)
  rw [show Lib.nDigits m = (Lib.nDigits m - 1) + 1 by omega, Nat.pow_succ] at hhi
  have hq : 1 ≤ m / 10 ^ (Lib.nDigits m - 1) := Nat.div_pos hlo hp
  have hq9 : m / 10 ^ (Lib.nDigits m - 1) < 10 := Nat.div_lt_of_lt_mul hhi
  rw [Nat.sub_zero]
  omega
theorem IsKey.good (hK : IsKey s m) (hm : m < 10000000) (h1 : 1 < ((s.size - 1 - 19 : Nat) : Int)) (h0 : 0 < (s.extract 19 (s.size - 1)).size) {c0 : Nat} (hc : c0 = ((s.extract 19 (s.size - 1))[0]).toNat) (hb : 7 < ((s.size - 1 - 19 : Nat) : Int) ∨ ((c0 : Int) == 48) = true) : False := by
  have h7 : Lib.nDigits m ≤ 7 := by have := digits7 hm; rwa [Lib.decDigits_length] at this
  have hs := hK.size
  rcases hb with hb | hb
  · omega
  · have e1 : (c0 : Int) = 48 := by simpa using hb
    exact hK.first (by omega) h0 (by omega)
end

theorem dig_num (m k v c : Nat) (hk : k < Lib.nDigits m) (hc : c = 48 + m / 10 ^ (Lib.nDigits m - 1 - k) % 10) (hv : v = m / 10 ^ (Lib.nDigits m - k)) :
    v * 10 + (c - 48) = m / 10 ^ (Lib.nDigits m - (k + 1)) := by
  have e : Lib.nDigits m - k = (Lib.nDigits m - 1 - k) + 1 := by omega
  have e' : Lib.nDigits m - (k + 1) = Lib.nDigits m - 1 - k := by omega
  rw [e, Nat.pow_succ, ← Nat.div_div_eq_div_mul] at hv
  rw [e']
  omega
theorem dig_bad {c q : Nat} (hc : c = 48 + q % 10) (h : (c : Int) < 48 ∨ 57 < (c : Int)) : False := by omega
theorem dig_step (m k v n c : Nat) {w wr : World} (hlt : k < n) (hn : n = Lib.nDigits m) (hm : m < 10000000) (hc : c = 48 + m / 10 ^ (Lib.nDigits m - 1 - k) % 10) (hv : v = m / 10 ^ (Lib.nDigits m - k)) (hB : Below w.heap.size w wr) :
    ∃ k1 v1 : Nat, k1 ≤ n ∧ Value.int .i64 ((k : Int) + 1) = .int .i64 k1 ∧ v1 < 10000000 ∧ Hid (v1 = m / 10 ^ (Lib.nDigits m - k1)) ∧ Value.int .i64 ((v : Int) * 10 + ((c : Int) - 48)) = .int .i64 v1 ∧ Below w.heap.size w wr := by
  have h := dig_num m k v c (by omega) hc hv
  refine ⟨k + 1, v * 10 + (c - 48), by omega, by go_num, ?_, h, ?_, hB⟩
  · rw [h]; exact Nat.lt_of_le_of_lt (Nat.div_le_self _ _) hm
  · congr 1; omega
theorem dig_end (m k v n : Nat) (hk : k ≤ n) (hlt : ¬ k < n) (hn : n = Lib.nDigits m) (hv : v = m / 10 ^ (Lib.nDigits m - k)) : Ending.returned (.tuple #[.int .i64 (v : Int), .bool true]) = .returned (.tuple #[.int .i64 (m : Int), .bool true]) := by
  have : Lib.nDigits m - k = 0 := by omega
  rw [this] at hv
  simp at hv
  rw [hv]

set_option maxHeartbeats 1000000 in
theorem index11' (s : ByteArray) (m : Nat) (w : World) (hm : m < 10000000) (hK : IsKey s m) :
    Calls Tryd.prog 11 #[.string s] w fun e w' => e = .returned (.tuple #[.int .i64 m, .bool true]) ∧ Below w.heap.size w w' := by
  have h7 : Lib.nDigits m ≤ 7 := by have := digits7 hm; rwa [Lib.decDigits_length] at this
  have hp1 := Lib.nDigits_pos m
  have hs1 : 21 ≤ s.size := by have := hK.size; omega
  have hs2 : s.size ≤ 27 := by have := hK.size; omega
  have hl := hK.last (by omega)
  go_enter Tryd.func11, Tryd.ntmps11
  go_wp2
  clear hl
  go_loopw [2, 3, 4] (fun a b i wr => ∃ k : Nat, k ≤ 19 ∧ i = .int .i64 k ∧ Below w.heap.size w wr) (fun _ _ i _ => 19 - (intOf i).toNat)
  case atStart => exact ⟨0, by omega, rfl, Below.refl _ _⟩
  case round =>
    obtain ⟨k, hk, rfl, hB⟩ := hrel
    by_cases hlt : k < 19
    · have hk1 : k < s.size := by omega
      go_wp2
      go_quiet (fail)
      go_wp2
      · exfalso
        have hb : (((s[k]'hk1).toNat : Int) != ((dpPre[k]'hlt).toNat : Int)) = true := by assumption
        rw [hK.pre k hk1 hlt] at hb
        simp at hb
      · go_roundw
        case rel => exact ⟨k + 1, by omega, by go_num, below_drewN hB _⟩
        case measure => simp [intOf]; omega
    · go_wp2
      · exact (hK.good hm (by assumption) hK.dpos rfl (by assumption)).elim
      · generalize ((s.extract 19 (s.size - 1))[0]'hK.dpos).toNat = c0 at *
        generalize ((c0 : Int) == 48) = bb at *
        have hbb : ((s.size - 1 - 19 : Nat) : Int) ≤ 7 ∧ bb = false := by assumption
        obtain ⟨_, rfl⟩ := hbb
        have hdn := hK.dsize
        have HK : Hid (∀ k (h : k < (s.extract 19 (s.size - 1)).size), ((s.extract 19 (s.size - 1))[k]).toNat = 48 + m / 10 ^ (Lib.nDigits m - 1 - k) % 10) := hK.dig
        generalize s.extract 19 (s.size - 1) = d at *
        have HDN : Hid (d.size = Lib.nDigits m) := hdn
        have hd7 : d.size ≤ 7 := by rw [hdn]; exact h7
        clear hdn
        go_loopw [2, 3, 6, 7, 8] (fun r0 r1 n i c wr => ∃ k v : Nat, k ≤ d.size ∧ i = .int .i64 k ∧ v < 10000000 ∧ Hid (v = m / 10 ^ (Lib.nDigits m - k)) ∧ n = .int .i64 v ∧ Below w.heap.size w wr) (fun _ _ _ i _ _ => 19 - (intOf i).toNat)
        case atStart => exact ⟨0, 0, Nat.zero_le _, rfl, by decide, by show 0 = m / 10 ^ (Lib.nDigits m - 0); rw [Nat.sub_zero, Nat.div_eq_of_lt (Lib.lt_pow_nDigits m)], rfl, hB⟩
        case round =>
          obtain ⟨k, v, hk, rfl, hv7, hv, rfl, hB⟩ := hrel
          by_cases hlt : k < d.size
          · have HQ : Hid (d[k].toNat = 48 + m / 10 ^ (Lib.nDigits m - 1 - k) % 10) := HK.out k hlt
            clear HK
            go_wp2_with fail
            · exfalso
              have hb : (d[k].toNat : Int) < 48 ∨ 57 < (d[k].toNat : Int) := by assumption
              exact dig_bad HQ.out hb
            · go_roundw
              case rel =>
                obtain ⟨k1, v1, g1, g2, g3, g4, g5, _⟩ := dig_step m k v d.size d[k].toNat hlt HDN.out hm HQ.out hv.out hB
                exact ⟨_, _, _, _, ⟨k1, g1, g2, v1, g3, g4, g5⟩, rfl, rfl, rfl, rfl⟩
              case measure => go_light; simp [intOf]; omega
            · exfalso
              have hb : (d[k].toNat : Int) < 48 := by assumption
              exact dig_bad HQ.out (.inl hb)
          · go_wp2
            go_ret2
            exact ⟨dig_end m k v d.size hk hlt HDN.out hv.out, hB⟩
      · have hdn := hK.dsize
        have HK : Hid (∀ k (h : k < (s.extract 19 (s.size - 1)).size), ((s.extract 19 (s.size - 1))[k]).toNat = 48 + m / 10 ^ (Lib.nDigits m - 1 - k) % 10) := hK.dig
        generalize s.extract 19 (s.size - 1) = d at *
        have HDN : Hid (d.size = Lib.nDigits m) := hdn
        have hd7 : d.size ≤ 7 := by rw [hdn]; exact h7
        clear hdn
        go_loopw [2, 3, 6, 7, 8] (fun r0 r1 n i c wr => ∃ k v : Nat, k ≤ d.size ∧ i = .int .i64 k ∧ v < 10000000 ∧ Hid (v = m / 10 ^ (Lib.nDigits m - k)) ∧ n = .int .i64 v ∧ Below w.heap.size w wr) (fun _ _ _ i _ _ => 19 - (intOf i).toNat)
        case atStart => exact ⟨0, 0, Nat.zero_le _, rfl, by decide, by show 0 = m / 10 ^ (Lib.nDigits m - 0); rw [Nat.sub_zero, Nat.div_eq_of_lt (Lib.lt_pow_nDigits m)], rfl, hB⟩
        case round =>
          obtain ⟨k, v, hk, rfl, hv7, hv, rfl, hB⟩ := hrel
          by_cases hlt : k < d.size
          · have HQ : Hid (d[k].toNat = 48 + m / 10 ^ (Lib.nDigits m - 1 - k) % 10) := HK.out k hlt
            clear HK
            go_wp2_with fail
            · exfalso
              have hb : (d[k].toNat : Int) < 48 ∨ 57 < (d[k].toNat : Int) := by assumption
              exact dig_bad HQ.out hb
            · go_roundw
              case rel => exact dig_step m k v d.size d[k].toNat hlt HDN.out hm HQ.out hv.out hB
              case measure => go_light; simp [intOf]; omega
            · exfalso
              have hb : (d[k].toNat : Int) < 48 := by assumption
              exact dig_bad HQ.out (.inl hb)
          · go_wp2
            go_ret2
            exact ⟨dig_end m k v d.size hk hlt HDN.out hv.out, hB⟩

theorem index11 (m : Nat) (w : World) (hm : m < 10000000) :
    Calls Tryd.prog 11 #[.string (keyOf m)] w fun e w' => e = .returned (.tuple #[.int .i64 m, .bool true]) ∧ Below w.heap.size w w' := index11' (keyOf m) m w hm rfl
end Go.Proofs.Qxb6613651aDoor

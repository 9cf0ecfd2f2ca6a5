import Derived.StillTailTactics
import Derived.RegionTactic
namespace Go.Proofs.Qxb6614227aFmt
open Go

section
variable {P : Program} {md : Region.Mode} {w : World}

/-- Two regions that part in operation k alone, which waits in both for n: what may come up is the same as long as n has not. -/
theorem ready_same {ops ops' : Array Oper} {n k : Nat} (hne : ∀ i, i ≠ k → ops'[i]? = ops[i]?) (hw : Region.waitsFor md ops k n = true) (hw' : Region.waitsFor md ops' k n = true)
    {listed : Array Bool} (hl : listed.getD n true = false) (i : Nat) : i ∈ Region.ready md ops listed ↔ i ∈ Region.ready md ops' listed := by
  by_cases hik : i = k
  · subst hik
    constructor
    · intro h
      obtain ⟨_, o, ho, hall⟩ := mem_ready.1 h
      obtain ⟨oj, hoj, e, he, hb, hon⟩ := Region.waitsFor_spec hw
      obtain rfl := Option.some.inj (hoj.symm.trans ho)
      have := hall e he hb
      rw [hon, getD_both hl] at this
      cases this
    · intro h
      obtain ⟨_, o, ho, hall⟩ := mem_ready.1 h
      obtain ⟨oj, hoj, e, he, hb, hon⟩ := Region.waitsFor_spec hw'
      obtain rfl := Option.some.inj (hoj.symm.trans ho)
      have := hall e he hb
      rw [hon, getD_both hl] at this
      cases this
  · rw [mem_ready, mem_ready, hne i hik]

/-- The head of the one region, walked as the other's. -/
theorem any_of_head {ops ops' : Array Oper} {n k g : Nat} {L : Array Bool → Act → Prop} {Q' : Exit → Act → World → Prop} (hnk : n < k) (hne : ∀ i, i ≠ k → ops'[i]? = ops[i]?) (hw : Region.waitsFor md ops k n = true) (hw' : Region.waitsFor md ops' k n = true)
    (hg : ∀ i o, i < n → ops[i]? = some o → o.guard = none) (hn : n < ops'.size) (hL : ∀ listed a, HeadInv md ops' n listed → L listed a → wpAny P md ops Q' g listed a w) :
    ∀ (f : Nat) (listed : Array Bool) (a : Act), HeadInv md ops' n listed → wpAnyL P md ops' w n L f listed a → wpAny P md ops Q' (f + g) listed a w
  | 0, listed, a, inv, h => by rw [Nat.zero_add]; exact hL _ _ inv h
  | f + 1, listed, a, inv, h => by
    have hnl := inv.tail n (Nat.le_refl _) hn
    have hr := ready_same hne hw hw' hnl
    rw [show f + 1 + g = (f + g) + 1 by omega]
    refine ⟨fun h0 => ?_, fun i hi => ?_⟩
    · obtain ⟨i, hi⟩ := List.exists_mem_of_ne_nil _ h.1
      have := (hr i).2 hi
      rw [h0] at this
      cases this
    · have hi' := (hr i).1 hi
      obtain ⟨hin, hst⟩ := h.2 i hi'
      refine wpOp_of_stOp (K := wpAnyL P md ops' w n L f (listed.setIfInBounds i true)) (fun a' h' => any_of_head hnk hne hw hw' hg hn hL f _ a' (inv.set hi' hin) h') ?_
      unfold stOp at hst ⊢
      rw [hne i (by omega)] at hst
      cases ho : ops[i]? with
      | none => simpa only [ho] using hst
      | some o =>
        simp only [ho] at hst ⊢
        have hw1 : ∀ y, Region.wanted o y = true := fun y => by simp [Region.wanted, hg i o hin ho]
        rw [if_pos (hw1 _)] at hst ⊢
        exact hst

theorem all_listed {ops' : Array Oper} {n m : Nat} {listed : Array Bool} (hs : Region.sinkB md ops' n = true) (hc : Region.chainB md ops' n = true) (hsz : ops'.size = n + m) (hm : 0 < m) (inv : HeadInv md ops' n listed) (hr : n ∈ Region.ready md ops' listed) :
    listed = Array.replicate n true ++ Array.replicate m false := by
  apply Array.ext
  · rw [inv.size, hsz]; simp
  · intro i h1 h2
    rw [inv.size, hsz] at h1
    have hil : i < listed.size := by rw [inv.size]; omega
    by_cases hin : i < n
    · cases hl : listed.getD i true with
      | true =>
        have : listed[i] = true := by simpa [Array.getD, hil] using hl
        simp [this, hin]
      | false => exact absurd hr (tail_waits hs hc (by omega) inv _ i rfl hin hl n (Nat.le_refl _))
    · have := inv.tail i (by omega) (by omega)
      have : listed[i] = false := by simpa [Array.getD, hil] using this
      rw [this, Array.getElem_append_right (by simp; omega)]
      simp

/-- A REGION THAT READS, THEN CALLS (operation n, for which all else of the head is done), THEN READS ON IN AN ORDER OF ITS OWN. l' is l with one more edge at k: the tail in a row. -/
theorem wp_region_reads_call {id : Nat} {Q : Exit → Act → World → Prop} {a : Act} {l l' : List Oper} (n k : Nat) (hm : P.follows .mixedOrders = true) (hnk : n < k) (hne : ∀ i, i ≠ k → l'[i]? = l[i]?) (hlen : l'.length = l.length)
    (hw : Region.waitsFor .any l.toArray k n = true) (hw' : Region.waitsFor .any l'.toArray k n = true) (hg : (l.take n).all (fun o => o.guard.isNone) = true)
    (hB : Region.lexTailB .any l'.toArray n = true) (hr : Region.ready .any l.toArray (Array.replicate n true ++ Array.replicate (l.length - n) false) = [n])
    (hB2 : (Region.noSelect l.toArray && Region.lexFrom .any l.toArray (l.length - (n + 1)) (n + 1) ((Array.replicate n true ++ Array.replicate (l.length - n) false).setIfInBounds n true)) = true)
    (h : wpStill P l'.toArray { w with drawn := w.drawn + 1 } (fun a' => wpOp P l.toArray Q n (fun a2 w2 => wpStill P l.toArray w2 (fun a3 => Q .normal a3 w2) (l.drop (n + 1)) a2) a' { w with drawn := w.drawn + 1 }) (l.take n) a) : (Code.region id l.toArray true).wp P Q a w := by
  simp only [Region.lexTailB, Bool.and_eq_true, decide_eq_true_eq] at hB
  obtain ⟨⟨⟨⟨hsel, hn⟩, hs⟩, hc⟩, hlex⟩ := hB
  simp only [Bool.and_eq_true] at hB2
  have hn' : n < l.length := by simpa [hlen] using hn
  have htl : (l.take n).length = n := by simp; omega
  have inv0 : HeadInv .any l'.toArray n (Array.replicate l'.toArray.size false) :=
    ⟨by simp, fun j oj _ hl => (by rw [getD_replicate_false] at hl; cases hl), fun t _ ht => getD_in (by simpa using ht) (getD_replicate_false _ _)⟩
  have H := wpAnyL_lex (md := .any) (g := l'.toArray.size - n) hsel hs hc hn (l.take n) 0 _ a (fun j hj => by
    have hj' : j < n := by rw [htl] at hj; exact hj
    simp [hj', hne j (by omega)]) (by simpa using htl) inv0 (by rw [htl]; exact hlex) h
  refine wp_region_any hm ?_
  have T := any_of_head (P := P) (md := .any) (ops := l.toArray) (Q' := Q) (g := l.length - n) (w := { w with drawn := w.drawn + 1 }) hnk (fun i hi => by simpa using hne i hi) hw hw' (fun i o hin ho => by
      have := List.all_eq_true.1 hg o (List.mem_of_getElem? (i := i) (by rw [List.getElem?_take_of_lt hin]; simpa using ho))
      simpa using this) hn (fun listed a' inv hL => by
    have hrn : n ∈ Region.ready .any l'.toArray listed := by
      have h1 := hL.1
      rw [show l'.toArray.size - n = (l'.toArray.size - (n + 1)) + 1 by simp at hn ⊢; omega] at h1
      simp only [Region.seqB, Bool.and_eq_true, decide_eq_true_eq] at h1
      rw [h1.1]; simp
    have hl : listed = Array.replicate n true ++ Array.replicate (l.length - n) false := all_listed hs hc (by simp [hlen]; omega) (by omega) inv hrn
    subst hl
    rw [show l.length - n = (l.length - (n + 1)) + 1 by omega]
    have hr' := hr
    refine ⟨fun h0 => ?_, fun i hi => ?_⟩
    · rw [← show l.length - n = (l.length - (n + 1)) + 1 by omega] at h0
      rw [hr] at h0; cases h0
    · rw [← show l.length - n = (l.length - (n + 1)) + 1 by omega] at hi ⊢
      rw [hr] at hi
      have hin : i = n := by simpa using hi
      subst hin
      refine wpOp_mono (fun a2 w2 h2 => ?_) hL.2
      have := wpAnyS_lex (md := .any) hB2.1 (l.drop (i + 1)) (i + 1) ((Array.replicate i true ++ Array.replicate (l.length - i) false).setIfInBounds i true) a2 (fun j => by simp [List.getElem?_drop]) (by rw [List.length_drop]; exact hB2.2) h2
      rw [List.length_drop] at this
      exact wpAny_of_still (fun _ h => h) _ _ _ this) (l.take n).length _ a inv0 H
  rw [htl] at T
  have e : n + (l.length - n) = l.toArray.size := by simp; omega
  rw [e] at T
  simpa [hlen] using T

/-- l, in which operation k waits for operation j too. -/
def waiting (l : List Oper) (k j : Nat) : List Oper := l.modify k fun o => { o with after := o.after.push { on := j, ground := .data } }
theorem waiting_len (l : List Oper) (k j : Nat) : (waiting l k j).length = l.length := by simp [waiting]
theorem waiting_ne (l : List Oper) (k j i : Nat) (h : i ≠ k) : (waiting l k j)[i]? = l[i]? := by
  rw [waiting, List.getElem?_modify]; simp [Ne.symm h]

theorem wp_region_reads_call_tail {id : Nat} {Q : Exit → Act → World → Prop} {a : Act} {l : List Oper} (n k : Nat) (hm : P.follows .mixedOrders = true) (hnk : n < k)
    (hw : Region.waitsFor .any l.toArray k n = true) (hw' : Region.waitsFor .any (waiting l k (k - 1)).toArray k n = true) (hg : (l.take n).all (fun o => o.guard.isNone) = true)
    (hB : Region.lexTailB .any (waiting l k (k - 1)).toArray n = true) (hr : Region.ready .any l.toArray (Array.replicate n true ++ Array.replicate (l.length - n) false) = [n])
    (hB2 : (Region.noSelect l.toArray && Region.lexFrom .any l.toArray (l.length - (n + 1)) (n + 1) ((Array.replicate n true ++ Array.replicate (l.length - n) false).setIfInBounds n true)) = true)
    (h : wpStill P (waiting l k (k - 1)).toArray w.drew (fun a' => wpOp P l.toArray Q n (fun a2 w2 => wpStill P l.toArray w2 (fun a3 => Q .normal a3 w2) (l.drop (n + 1)) a2) a' w.drew) (l.take n) a) : (Code.region id l.toArray true).wp P Q a w :=
  wp_region_reads_call n k hm hnk (waiting_ne l k (k - 1)) (waiting_len l k (k - 1)) hw hw' hg hB hr hB2 h
end
end Go.Proofs.Qxb6614227aFmt

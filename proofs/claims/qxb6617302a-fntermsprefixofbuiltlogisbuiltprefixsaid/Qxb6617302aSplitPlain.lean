/-
  THE PLAIN LAW of 'FnTermsAddSplits', and what one Terms keeps while another is written.
-/
import Derived.Test.Qxb6617302aZTerms
namespace Go.Proofs.Qxb6617302a
open Go.RowKit

theorem addR_zero (R : List Rn) (hd t : Int) : addR R hd t 0 = R := by unfold addR; rw [if_pos rfl]

theorem last_append (R : List Rn) (r : Rn) : (R ++ [r]).getLast?.map Rn.term = some r.term := by simp

theorem addR_last {R : List Rn} {hd t n : Int} (hn : n ≠ 0) : (addR R hd t n).getLast?.map Rn.term = some t := by
  unfold addR
  rw [if_neg hn]
  by_cases h : R.getLast?.map Rn.term = some t
  · rw [if_pos h]; exact h
  · rw [if_neg h]; exact last_append _ _

theorem addR_again {R : List Rn} {hd t n : Int} (h : R.getLast?.map Rn.term = some t) : addR R hd t n = R := by
  unfold addR
  by_cases hn : n = 0
  · rw [if_pos hn]
  · rw [if_neg hn, if_pos h]

/-- Adding a entries of a term, then b, is adding a + b. -/
theorem addR_split {R : List Rn} {hd t a b : Int} (ha : 0 ≤ a) (hb : 0 ≤ b) (h0 : 0 ≤ hd) (h1 : hd ≤ 18446744073709551615) : addR (addR R hd t a) (addH hd a) t b = addR R hd t (a + b) := by
  by_cases hz : a = 0
  · subst hz
    rw [addR_zero, show addH hd 0 = hd by unfold addH; omega, Int.zero_add]
  · rw [addR_again (addR_last hz)]
    unfold addR
    rw [if_neg hz, if_neg (show a + b ≠ 0 by omega)]

theorem addH_split {hd a b : Int} : addH (addH hd a) b = addH hd (a + b) := by unfold addH; omega
theorem addH_bounds (hd a : Int) : 0 ≤ addH hd a ∧ addH hd a ≤ 18446744073709551615 := by unfold addH; omega

/-- Does the log grow by a run? -/
def grows (R : List Rn) (t n : Int) : Bool := decide (n ≠ 0 ∧ R.getLast?.map Rn.term ≠ some t)
theorem grows_yes {R : List Rn} {hd t n : Int} (h : grows R t n = true) : addR R hd t n = R ++ [⟨hd, t⟩] := by
  have := of_decide_eq_true h
  unfold addR
  rw [if_neg this.1, if_neg this.2]
theorem grows_no {R : List Rn} {hd t n : Int} (h : grows R t n = false) : addR R hd t n = R := by
  have := of_decide_eq_false h
  unfold addR
  by_cases hn : n = 0
  · rw [if_pos hn]
  · rw [if_neg hn, if_pos (by by_cases hl : R.getLast?.map Rn.term = some t; exact hl; exact absurd ⟨hn, hl⟩ this)]

/-! ### Two Terms side by side -/
theorem TSt.kept {w w' : World} {base bt : Nat} {rv : Value} {R : List Rn} {hd : Int} (h : TSt w base bt rv R hd) (hb : Below w.heap.size w w') : TSt w' base bt rv R hd := by
  refine ⟨(hb.block bt (Array.getElem?_eq_some_iff.1 h.box).1).trans h.box, h.own.1, ?_⟩
  rcases h.own.2 with h2 | ⟨g, c', cur, hv, hg1, hg, rest⟩
  · exact .inl h2
  · exact .inr ⟨g, c', cur, hv, hg1, (hb.block g (Array.getElem?_eq_some_iff.1 hg).1).trans hg, rest⟩

theorem TSt.other {w w' : World} {base bt bt' : Nat} {rv : Value} {R : List Rn} {hd : Int} {row : Option Nat} (h : TSt w base bt rv R hd) (hk : KeptBut w w' bt' row) (h1 : bt ≠ bt') (h2 : some bt ≠ row) (h3 : ∀ g, rv.ownBlock = some g → g ≠ bt' ∧ some g ≠ row) : TSt w' base bt rv R hd := by
  refine ⟨(hk.block bt (Array.getElem?_eq_some_iff.1 h.box).1 h1 h2).trans h.box, h.own.1, ?_⟩
  rcases h.own.2 with h4 | ⟨g, c', cur, hv, hg1, hg, rest⟩
  · exact .inl h4
  · obtain ⟨e1, e2⟩ := h3 g (by rw [hv]; rfl)
    exact .inr ⟨g, c', cur, hv, hg1, (hk.block g (Array.getElem?_eq_some_iff.1 hg).1 e1 e2).trans hg, rest⟩

theorem TSt.lt {w : World} {base bt : Nat} {rv : Value} {R : List Rn} {hd : Int} (h : TSt w base bt rv R hd) : bt < w.heap.size ∧ ∀ g, rv.ownBlock = some g → g < w.heap.size :=
  ⟨(Array.getElem?_eq_some_iff.1 h.box).1, fun g hg => (h.own.lt g hg).2⟩

end Go.Proofs.Qxb6617302a

/-
  The Terms of a log, as they lie in memory, and (*Terms).add, ZZAdd, ZZRuns, ZZHead.
-/
import Derived.Test.Qxb6617302aBase
import Derived.StillTactics
import Derived.Deep.AppendLies
import Derived.Deep.RegionLaw
import Derived.Deep.DrawnRows
namespace Go.Proofs.Qxb6617302a
open Go.RowKit
attribute [local go_sem ↓] Go.wp_at_zero Go.wp_at_succ

/-! ### Runs (two cells each) -/
theorem info48 : (Try.prog.info? 48).map (fun i => (i.zero, i.size, i.bytes)) = some (some (.agg #[.int .u64 0, .int .u64 0]), 2, 16) := by kernel_rfl

/-- A run: its first entry's id, its term. -/
structure Rn where
  first : Int
  term : Int
def Rn.vals (r : Rn) : List Value := [.int .u64 r.first, .int .u64 r.term]
def rcells : List Rn → List Value
  | [] => []
  | r :: R => r.vals ++ rcells R
theorem rcells_length : ∀ R : List Rn, (rcells R).length = R.length * 2
  | [] => rfl
  | r :: R => by rw [rcells, List.length_append, rcells_length R]; simp [Rn.vals]; omega
theorem rcells_append : ∀ R S : List Rn, rcells (R ++ S) = rcells R ++ rcells S
  | [], S => rfl
  | r :: R, S => by rw [List.cons_append, rcells, rcells_append R S, rcells, List.append_assoc]
theorem rcells_first : ∀ (R : List Rn) (i : Nat) (h : i < R.length), (rcells R)[i * 2]? = some (.int .u64 R[i].first)
  | r :: R, 0, _ => rfl
  | r :: R, i + 1, h => by
    rw [rcells, List.getElem?_append_right (by simp [Rn.vals]; omega)]
    have := rcells_first R i (by simpa using h)
    rw [show (i + 1) * 2 - r.vals.length = i * 2 by simp [Rn.vals]; omega, this]
    rfl
theorem rcells_term : ∀ (R : List Rn) (i : Nat) (h : i < R.length), (rcells R)[i * 2 + 1]? = some (.int .u64 R[i].term)
  | r :: R, 0, _ => rfl
  | r :: R, i + 1, h => by
    rw [rcells, List.getElem?_append_right (by simp [Rn.vals]; omega)]
    have := rcells_term R i (by simpa using h)
    rw [show (i + 1) * 2 + 1 - r.vals.length = i * 2 + 1 by simp [Rn.vals]; omega, this]
    rfl

/-- The Terms at block bt: its runs lie at rv, a slice of the call's own; its head. -/
structure TSt (w : World) (base bt : Nat) (rv : Value) (R : List Rn) (hd : Int) : Prop where
  box : w.heap[bt]? = some (.cells #[rv, .int .u64 hd] 40 (0, 0))
  own : w.ownsRow base 48 2 rv R.length (rcells R)

/-- What a step may have turned: block bt, the row of rv; and there may be new blocks. -/
structure KeptBut (w w' : World) (bt : Nat) (row : Option Nat) : Prop where
  os : w'.os = w.os
  tape : w'.tape = w.tape
  output : w'.output = w.output
  size : w.heap.size ≤ w'.heap.size
  block : ∀ k, k < w.heap.size → k ≠ bt → some k ≠ row → w'.heap[k]? = w.heap[k]?

theorem KeptBut.refl (w : World) (bt : Nat) (row : Option Nat) : KeptBut w w bt row := ⟨rfl, rfl, rfl, Nat.le_refl _, fun _ _ _ _ => rfl⟩

def addR (R : List Rn) (hd term n : Int) : List Rn := if n = 0 then R else if R.getLast?.map Rn.term = some term then R else R ++ [⟨hd, term⟩]
def addH (hd n : Int) : Int := (hd + n) % 18446744073709551616

/-- Where the runs lie behind an add: where they lay, or in a new block. -/
def Moved (w : World) (rv rv' : Value) : Prop := rv'.ownBlock = rv.ownBlock ∨ ∃ g, rv'.ownBlock = some g ∧ w.heap.size ≤ g

theorem TSt.row_ne {w : World} {base bt : Nat} {rv : Value} {R : List Rn} {hd : Int} (h : TSt w base bt rv R hd) : rv.ownBlock ≠ some bt := by
  intro e
  rcases h.own.2 with ⟨hv, _⟩ | ⟨g, cap, cur, hv, _, hg, _⟩
  · rw [hv] at e; simp [Value.ownBlock] at e
  · rw [hv] at e
    simp [Value.ownBlock] at e
    rw [e, h.box] at hg
    simp at hg

theorem TSt.form {w : World} {base bt : Nat} {rv : Value} {R : List Rn} {hd : Int} (h : TSt w base bt rv R hd) : ∃ ao cp, rv = .slice ao R.length cp ∧ (R ≠ [] → ∃ g, ao = some ⟨g, 0, none⟩) := by
  rcases h.own.2 with ⟨hv, h0⟩ | ⟨g, cap, cur, hv, _⟩
  · exact ⟨none, 0, by rw [h0]; exact hv, fun hne => absurd (List.eq_nil_of_length_eq_zero h0) hne⟩
  · exact ⟨_, _, hv, fun _ => ⟨g, rfl⟩⟩

theorem set_box {w : World} {b : Nat} {v0 v1 : Value} (h : w.heap[b]? = some (.cells #[v0, v1] 40 (0, 0))) (u : Value) :
    (w.setCell ⟨b, 0, none⟩ u).heap[b]? = some (.cells #[u, v1] 40 (0, 0)) ∧ (w.setCell ⟨b, 1, none⟩ u).heap[b]? = some (.cells #[v0, u] 40 (0, 0)) :=
  ⟨heap_setCell_same w b 0 #[v0, v1] 40 u h, heap_setCell_same w b 1 #[v0, v1] 40 u h⟩

/-- The end of an add that lays a new run. -/
theorem grown_end {w w1 : World} {base bt : Nat} {rv : Value} {R : List Rn} {hd hd' term : Int} {gg cap : Nat} {o : Obj} (hT : TSt w base bt rv R hd)
    (hown1 : w1.ownsRow base 48 2 (.slice (some ⟨gg, 0, none⟩) (R.length + 1) cap) (R.length + 1) (rcells R ++ [.int .u64 hd, .int .u64 term]))
    (hgrow : (w.alloc o).drew.grownBy w1 rv.ownBlock) (hat : rv.ownBlock = some gg ∨ gg = w.heap.size + 1) :
    ∃ rv', TSt ((w1.setCell ⟨bt, 0, none⟩ (.slice (some ⟨gg, 0, none⟩) (R.length + 1) cap)).setCell ⟨bt, 1, none⟩ (.int .u64 hd')) base bt rv' (R ++ [⟨hd, term⟩]) hd' ∧ Moved w rv rv' ∧
      KeptBut w ((w1.setCell ⟨bt, 0, none⟩ (.slice (some ⟨gg, 0, none⟩) (R.length + 1) cap)).setCell ⟨bt, 1, none⟩ (.int .u64 hd')) bt rv.ownBlock := by
  have lb : bt < w.heap.size := by have := (Array.getElem?_eq_some_iff.1 hT.box).1; exact this
  have hnb := hT.row_ne
  have hbox1 : w1.heap[bt]? = some (.cells #[rv, .int .u64 hd] 40 (0, 0)) := by
    rw [hgrow.block bt (by simp; omega) (fun e => hnb e.symm)]
    show (w.heap.push o)[bt]? = _
    rw [Array.getElem?_push, if_neg (by omega)]
    exact hT.box
  have hgne : bt ≠ gg := by
    intro e
    rcases hat with h | h
    · rw [← e] at h; exact hnb h
    · omega
  refine ⟨.slice (some ⟨gg, 0, none⟩) (R.length + 1) cap, ⟨(set_box (set_box hbox1 _).1 _).2, ?_⟩, ?_, ?_⟩
  · have e : (R ++ [(⟨hd, term⟩ : Rn)]).length = R.length + 1 := by simp
    rw [e, rcells_append]
    obtain ⟨h1, h2⟩ := hown1
    refine ⟨by simpa [rcells, Rn.vals] using h1, ?_⟩
    rcases h2 with ⟨h2, _⟩ | ⟨g, c', cur, hv, hb, hg, rest⟩
    · cases h2
    · have e2 : gg = g := by injection hv with hv _ _; injection hv with hv; injection hv
      subst e2
      refine .inr ⟨gg, c', cur, hv, hb, ?_, ?_⟩
      · rw [heap_setCell_other _ _ _ _ (by simpa using Ne.symm hgne), heap_setCell_other _ _ _ _ (by simpa using Ne.symm hgne)]
        exact hg
      · simpa [rcells, Rn.vals] using rest
  · rcases hat with h | h
    · exact .inl (by rw [h]; rfl)
    · exact .inr ⟨gg, rfl, by omega⟩
  · refine ⟨hgrow.os, hgrow.tape, hgrow.output, ?_, fun k hk hkb hkr => ?_⟩
    · have := hgrow.size; simp at this ⊢; omega
    · rw [heap_setCell_other _ _ _ _ hkb, heap_setCell_other _ _ _ _ hkb, hgrow.block k (by simp; omega) hkr]
      show (w.heap.push o)[k]? = _
      rw [Array.getElem?_push, if_neg (by omega)]

/-- The end of an add that lays none. -/
theorem same_end {w : World} {base bt : Nat} {rv : Value} {R : List Rn} {hd hd' : Int} (hT : TSt w base bt rv R hd) :
    ∃ rv', TSt (w.setCell ⟨bt, 1, none⟩ (.int .u64 hd')) base bt rv' R hd' ∧ Moved w rv rv' ∧ KeptBut w (w.setCell ⟨bt, 1, none⟩ (.int .u64 hd')) bt rv.ownBlock := by
  have hnb := hT.row_ne
  refine ⟨rv, ⟨(set_box hT.box _).2, ?_⟩, .inl rfl, ⟨rfl, rfl, rfl, by simp, fun k hk hkb hkr => heap_setCell_other _ _ _ _ hkb⟩⟩
  refine ⟨hT.own.1, ?_⟩
  rcases hT.own.2 with h2 | ⟨g, c', cur, hv, hb, hg, rest⟩
  · exact .inl h2
  · refine .inr ⟨g, c', cur, hv, hb, ?_, rest⟩
    rw [heap_setCell_other _ _ _ _ (by intro e; apply hnb; rw [hv]; exact congrArg some e)]
    exact hg

set_option maxRecDepth 100000 in
set_option maxHeartbeats 1600000 in
theorem add_grow (base bt : Nat) (rv : Value) (R : List Rn) (hd term n : Int) (w : World) (hT : TSt w base bt rv R hd) (hbase : base ≤ w.heap.size) (hR : R.length ≤ 1000000)
    (hn0 : 0 < n) (hlast : Hid (R.getLast?.map Rn.term ≠ some term)) :
    Calls Try.prog 26 #[.pointer (some ⟨bt, 0, none⟩), .int .u64 term, .int .u64 n] w fun e w' => e = .returned (.tuple #[]) ∧
      ∃ rv', TSt w' base bt rv' (R ++ [⟨hd, term⟩]) (addH hd n) ∧ Moved w rv rv' ∧ KeptBut w w' bt rv.ownBlock := by
  obtain ⟨i0, hi0, hz0, hz1, hz2⟩ := info_parts info48
  have HT : Hid (TSt w base bt rv R hd) := hT
  have hnb := hT.row_ne
  obtain ⟨ao, cp, hrv, hao⟩ := hT.form
  obtain ⟨hbox, hown⟩ := hT
  have c0 : w.cell? ⟨bt, 0, none⟩ = some rv := by simp [World.cell?, hbox]
  have c1 : w.cell? ⟨bt, 1, none⟩ = some (.int .u64 hd) := by simp [World.cell?, hbox]
  have f0 : w.frozen? ⟨bt, 0, none⟩ = false := by simp [World.frozen?, hbox]
  have f1 : w.frozen? ⟨bt, 1, none⟩ = false := by simp [World.frozen?, hbox]
  have lb : bt < w.heap.size := World.block_lt_of_cell? w ⟨bt, 0, none⟩ c0
  have hne0 : (n == 0) = false := by simp; omega
  clear hbox
  by_cases hR0 : R = []
  · subst hR0
    subst hrv
    have hown : w.ownsRow base 48 2 (.slice ao 0 cp) 0 [] := hown
    have hnb : (Value.slice ao 0 cp).ownBlock ≠ some bt := hnb
    have c0 : w.cell? ⟨bt, 0, none⟩ = some (.slice ao 0 cp) := c0
    clear hao hR
    go_enter Try.func26, Try.ntmps26
    go_wp2_with fail
    go_region_law ((refine step_append_lies _ (by rfl) _ _ _ (by rfl) base 48 i0 _ 2 16 Try.underlying38 hi0 hz0 hz1 hz2 rfl (by omega) (.slice ao 0 cp) 0 [] (by rfl) ((hown.alloc _).drew) ⟨w.heap.size, 0, none⟩ 1 1 [.int .u64 hd, .int .u64 term] (by rfl) (by rfl) (World.news_of_block (cs := #[.int .u64 hd, .int .u64 term]) (t := 48) (fr := (0, 0)) (heap_alloc_new w _)) (by simp [Value.oneCell']) (by omega) (by unfold maxLen; omega) (by omega) (by simp; omega) (w.heap.size + 1) (by simp) ?_; intro gg cap w1 hown1 hgrow hat hlt; have d0 : w1.cell? ⟨bt, 0, none⟩ = some (.slice ao 0 cp) := (hgrow.cell_far ⟨bt, 0, none⟩ (by simp; omega) (Ne.symm hnb)).trans ((World.cell?_alloc_past _ bt 0 lb).trans c0); have d1 : w1.cell? ⟨bt, 1, none⟩ = some (.int .u64 hd) := (hgrow.cell_far ⟨bt, 1, none⟩ (by simp; omega) (Ne.symm hnb)).trans ((World.cell?_alloc_past _ bt 1 lb).trans c1); have e0 : w1.frozen? ⟨bt, 0, none⟩ = false := (hgrow.frozen_far ⟨bt, 0, none⟩ (by simp; omega) (Ne.symm hnb)).trans ((World.frozen?_alloc_past _ bt 0 lb).trans f0); have e1 : w1.frozen? ⟨bt, 1, none⟩ = false := (hgrow.frozen_far ⟨bt, 1, none⟩ (by simp; omega) (Ne.symm hnb)).trans ((World.frozen?_alloc_past _ bt 1 lb).trans f1)))
    all_goals
      have RES := fun hd' => grown_end (hd' := hd') HT.out hown1 hgrow hat
      clear hown1 hgrow hat hlt hown c0 c1 f0 f1
      go_wp2
      go_end0
      exact ⟨rfl, RES _⟩
  · obtain ⟨g, rfl⟩ := hao hR0
    subst hrv
    have hpos : 0 < R.length := List.length_pos_iff.2 hR0
    obtain ⟨tl, ctl, htl⟩ : ∃ tl, w.cell? ⟨g, (R.length - 1) * 2 + 1, none⟩ = some (.int .u64 tl) ∧ (tl != term) = true := by
      refine ⟨R[R.length - 1].term, ?_, ?_⟩
      · rw [hown.cellAt _ (by omega), rcells_term R _ (by omega)]
      · have := hlast.out
        rw [List.getLast?_eq_getElem?, List.getElem?_eq_getElem (by omega)] at this
        simpa using this
    clear hao
    have hLen : Hid (R ≠ []) := hR0
    clear hR0
    go_enter Try.func26, Try.ntmps26
    go_wp2_with fail
    go_region_law ((refine step_append_lies _ (by rfl) _ _ _ (by rfl) base 48 i0 _ 2 16 Try.underlying38 hi0 hz0 hz1 hz2 rfl (by omega) (.slice (some ⟨g, 0, none⟩) R.length cp) R.length (rcells R) (by rfl) ((hown.alloc _).drew) ⟨w.heap.size, 0, none⟩ 1 1 [.int .u64 hd, .int .u64 term] (by rfl) (by rfl) (World.news_of_block (cs := #[.int .u64 hd, .int .u64 term]) (t := 48) (fr := (0, 0)) (heap_alloc_new w _)) (by simp [Value.oneCell']) (by omega) (by unfold maxLen; omega) (by omega) (by simp; omega) (w.heap.size + 1) (by simp) ?_; intro gg cap w1 hown1 hgrow hat hlt; have d0 : w1.cell? ⟨bt, 0, none⟩ = some (.slice (some ⟨g, 0, none⟩) R.length cp) := (hgrow.cell_far ⟨bt, 0, none⟩ (by simp; omega) (Ne.symm hnb)).trans ((World.cell?_alloc_past _ bt 0 lb).trans c0); have d1 : w1.cell? ⟨bt, 1, none⟩ = some (.int .u64 hd) := (hgrow.cell_far ⟨bt, 1, none⟩ (by simp; omega) (Ne.symm hnb)).trans ((World.cell?_alloc_past _ bt 1 lb).trans c1); have e0 : w1.frozen? ⟨bt, 0, none⟩ = false := (hgrow.frozen_far ⟨bt, 0, none⟩ (by simp; omega) (Ne.symm hnb)).trans ((World.frozen?_alloc_past _ bt 0 lb).trans f0); have e1 : w1.frozen? ⟨bt, 1, none⟩ = false := (hgrow.frozen_far ⟨bt, 1, none⟩ (by simp; omega) (Ne.symm hnb)).trans ((World.frozen?_alloc_past _ bt 1 lb).trans f1)))
    all_goals
      have RES := fun hd' => grown_end (hd' := hd') HT.out hown1 hgrow hat
      clear hown1 hgrow hat hlt hown c0 c1 f0 f1
      go_wp2
      go_end0
      exact ⟨rfl, RES _⟩

set_option maxHeartbeats 800000 in
theorem add_same (base bt : Nat) (rv : Value) (R : List Rn) (hd term n : Int) (w : World) (hT : TSt w base bt rv R hd) (hR : R.length ≤ 1000000)
    (hn0 : 0 < n) (hlast : Hid (R.getLast?.map Rn.term = some term)) :
    Calls Try.prog 26 #[.pointer (some ⟨bt, 0, none⟩), .int .u64 term, .int .u64 n] w fun e w' => e = .returned (.tuple #[]) ∧
      ∃ rv', TSt w' base bt rv' R (addH hd n) ∧ Moved w rv rv' ∧ KeptBut w w' bt rv.ownBlock := by
  have RES := fun hd' => same_end (hd' := hd') hT
  obtain ⟨ao, cp, hrv, hao⟩ := hT.form
  obtain ⟨hbox, hown⟩ := hT
  have c0 : w.cell? ⟨bt, 0, none⟩ = some rv := by simp [World.cell?, hbox]
  have c1 : w.cell? ⟨bt, 1, none⟩ = some (.int .u64 hd) := by simp [World.cell?, hbox]
  have f1 : w.frozen? ⟨bt, 1, none⟩ = false := by simp [World.frozen?, hbox]
  have hne0 : (n == 0) = false := by simp; omega
  clear hbox
  have hR0 : R ≠ [] := by
    intro e
    have := hlast.out
    rw [e] at this
    simp at this
  obtain ⟨g, rfl⟩ := hao hR0
  subst hrv
  have hpos : 0 < R.length := List.length_pos_iff.2 hR0
  have ctl : w.cell? ⟨g, (R.length - 1) * 2 + 1, none⟩ = some (.int .u64 term) := by
    rw [hown.cellAt _ (by omega), rcells_term R _ (by omega)]
    have := hlast.out
    rw [List.getLast?_eq_getElem?, List.getElem?_eq_getElem (by omega)] at this
    simp at this
    rw [this]
  have htl : (term != term) = false := by simp
  clear hao hown hR0
  go_enter Try.func26, Try.ntmps26
  go_wp2
  go_end0
  exact ⟨rfl, RES _⟩

theorem add_zero (bt : Nat) (term : Int) (w : World) :
    Calls Try.prog 26 #[.pointer (some ⟨bt, 0, none⟩), .int .u64 term, .int .u64 0] w fun e w' => e = .returned (.tuple #[]) ∧ w' = w := by
  go_enter Try.func26, Try.ntmps26
  go_wp2
  exact bodyPost_ret (v := .tuple #[]) (by simp [results, Try.results26, go_sem]) rfl ⟨rfl, rfl⟩

/-- (*Terms).add -/
theorem add_any (base bt : Nat) (rv : Value) (R : List Rn) (hd term n : Int) (w : World) (hT : TSt w base bt rv R hd) (hbase : base ≤ w.heap.size) (hR : R.length ≤ 1000000)
    (hh0 : 0 ≤ hd) (hh1 : hd ≤ 18446744073709551615) (hn0 : 0 ≤ n) :
    Calls Try.prog 26 #[.pointer (some ⟨bt, 0, none⟩), .int .u64 term, .int .u64 n] w fun e w' => e = .returned (.tuple #[]) ∧
      ∃ rv', TSt w' base bt rv' (addR R hd term n) (addH hd n) ∧ Moved w rv rv' ∧ KeptBut w w' bt rv.ownBlock := by
  unfold addR
  by_cases hz : n = 0
  · subst hz
    rw [if_pos rfl]
    refine (add_zero bt term w).mono ?_
    rintro e w' ⟨rfl, rfl⟩
    have e0 : addH hd 0 = hd := by unfold addH; omega
    rw [e0]
    exact ⟨rfl, rv, hT, .inl rfl, KeptBut.refl _ _ _⟩
  · rw [if_neg hz]
    by_cases hl : R.getLast?.map Rn.term = some term
    · rw [if_pos hl]
      exact add_same base bt rv R hd term n w hT hR (by omega) hl
    · rw [if_neg hl]
      exact add_grow base bt rv R hd term n w hT hbase hR (by omega) hl

/-- ZZAdd -/
theorem zzadd_any (base bt : Nat) (rv : Value) (R : List Rn) (hd term n : Int) (w : World) (hT : TSt w base bt rv R hd) (hbase : base ≤ w.heap.size) (hR : R.length ≤ 1000000)
    (hh0 : 0 ≤ hd) (hh1 : hd ≤ 18446744073709551615) (hn0 : 0 ≤ n) :
    Calls Try.prog 17 #[.pointer (some ⟨bt, 0, none⟩), .int .u64 term, .int .u64 n] w fun e w' => e = .returned (.tuple #[]) ∧
      ∃ rv', TSt w' base bt rv' (addR R hd term n) (addH hd n) ∧ Moved w rv rv' ∧ KeptBut w w' bt rv.ownBlock := by
  go_enter Try.func17, Try.ntmps17
  go_wp2_with fail
  refine (add_any base bt rv R hd term n _ hT hbase hR hh0 hh1 hn0).mono ?_
  rintro e w' ⟨rfl, hres⟩
  go_wp2
  go_end0
  exact ⟨rfl, hres⟩

/-- ZZRuns -/
theorem runs_any (rv : Value) (hd : Int) (w : World) (hrv : ∃ ao n c, rv = .slice ao n c) :
    Calls Try.prog 18 #[.agg #[rv, .int .u64 hd]] w fun e w' => e = .returned rv ∧ Below w.heap.size w w' := by
  obtain ⟨ao, n, c, rfl⟩ := hrv
  go_enter Try.func18, Try.ntmps18
  go_wp2
  go_ret
  exact ⟨rfl, (Below.refl _ _).alloc (Nat.le_refl _) _⟩

/-- ZZHead -/
theorem head_any (rv : Value) (hd : Int) (w : World) (hrv : ∃ ao n c, rv = .slice ao n c) :
    Calls Try.prog 19 #[.agg #[rv, .int .u64 hd]] w fun e w' => e = .returned (.int .u64 hd) ∧ Below w.heap.size w w' := by
  obtain ⟨ao, n, c, rfl⟩ := hrv
  go_enter Try.func19, Try.ntmps19
  go_wp2
  go_ret
  exact ⟨rfl, (Below.refl _ _).alloc (Nat.le_refl _) _⟩

end Go.Proofs.Qxb6617302a

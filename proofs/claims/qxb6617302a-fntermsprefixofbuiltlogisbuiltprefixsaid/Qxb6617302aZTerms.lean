/-
  zzTerms: a Terms whose runs are those that came in, copied into memory of the call's own.
-/
import Derived.Test.Qxb6617302aRuns
import Derived.Deep.DeepCutAuto
namespace Go.Proofs.Qxb6617302a
open Go.RowKit

/-- The runs G 0 .. G (n-1) as a list. -/
def gl (G : Nat → Rn) (n : Nat) : List Rn := (List.range n).map G
theorem gl_length (G : Nat → Rn) (n : Nat) : (gl G n).length = n := by simp [gl]
theorem gl_nth (G : Nat → Rn) {n i : Nat} (h : i < n) : nth (gl G n) i = G i := by simp [nth, gl, List.getD, h]

def FilledR (w : World) (base g n : Nat) (G : Nat → Rn) (k : Nat) : Prop :=
  ∃ xs : List Value, w.ownsRow base 48 2 (.slice (some ⟨g, 0, none⟩) n n) n xs ∧ ∀ i, i < k → xs[i * 2]? = some (.int .u64 (G i).first) ∧ xs[i * 2 + 1]? = some (.int .u64 (G i).term)

theorem FilledR.start {w : World} {base g n : Nat} {G : Nat → Rn} {xs : List Value} (h : w.ownsRow base 48 2 (.slice (some ⟨g, 0, none⟩) n n) n xs) : FilledR w base g n G 0 := ⟨xs, h, fun _ hi => absurd hi (Nat.not_lt_zero _)⟩

theorem FilledR.old {w : World} {base g n : Nat} {G : Nat → Rn} {k j : Nat} (h : FilledR w base g n G k) (hj : j < n * 2) : (∃ v, w.cell? ⟨g, j, none⟩ = some v) ∧ w.frozen? ⟨g, j, none⟩ = false := by
  obtain ⟨xs, ho, hx⟩ := h
  refine ⟨⟨xs[j]'(by rw [ho.1]; exact hj), ?_⟩, ho.frozenAt _⟩
  rw [ho.cellAt _ hj]
  exact List.getElem?_eq_getElem _

theorem FilledR.step {w : World} {base g n : Nat} {G : Nat → Rn} {k : Nat} (h : FilledR w base g n G k) (hk : k < n) :
    FilledR ((w.setCell ⟨g, k * 2, none⟩ (.int .u64 (G k).first)).setCell ⟨g, k * 2 + 1, none⟩ (.int .u64 (G k).term)) base g n G (k + 1) := by
  obtain ⟨xs, ho, hx⟩ := h
  have hl : xs.length = n * 2 := ho.1
  refine ⟨_, ((ho.stored _ _).1.stored _ _).1, fun i hi => ?_⟩
  simp only [List.getElem?_set, List.length_set]
  by_cases he : i = k
  · subst he
    refine ⟨?_, ?_⟩
    all_goals repeat (first | rw [if_neg (by omega)] | rw [if_pos (by omega)])
  · obtain ⟨h0, h1⟩ := hx i (by omega)
    refine ⟨?_, ?_⟩
    all_goals repeat (rw [if_neg (by omega)])
    all_goals assumption

theorem cells_are {xs : List Value} {n : Nat} {G : Nat → Rn} (hl : xs.length = n * 2) (hx : ∀ i, i < n → xs[i * 2]? = some (.int .u64 (G i).first) ∧ xs[i * 2 + 1]? = some (.int .u64 (G i).term)) : xs = rcells (gl G n) := by
  apply List.ext_getElem?
  intro j
  have hlen : (rcells (gl G n)).length = n * 2 := by rw [rcells_length, gl_length]
  by_cases hj : j < n * 2
  · have hi : j / 2 < n := by omega
    have hi' : j / 2 < (gl G n).length := by rw [gl_length]; exact hi
    have e1 := rcells_first (gl G n) (j / 2) hi'
    have e2 := rcells_term (gl G n) (j / 2) hi'
    rw [← nth_get hi', gl_nth G hi] at e1 e2
    rcases (show j = j / 2 * 2 ∨ j = j / 2 * 2 + 1 by omega) with h | h
    · rw [h, (hx _ hi).1, e1]
    · rw [h, (hx _ hi).2, e2]
  · rw [List.getElem?_eq_none (by omega), List.getElem?_eq_none (by omega)]

theorem FilledR.done {w : World} {base g n : Nat} {G : Nat → Rn} (h : FilledR w base g n G n) : w.ownsRow base 48 2 (.slice (some ⟨g, 0, none⟩) n n) n (rcells (gl G n)) := by
  obtain ⟨xs, ho, hx⟩ := h
  rw [← cells_are ho.1 hx]
  exact ho

/-- ZZTerms -/
theorem zzt27_any (ao : Option Addr) (n c : Nat) (hd : Int) (w : World) :
    Calls Try.prog 27 #[.slice ao n c, .int .u64 hd] w fun e w' => e = .returned (.agg #[.slice ao n c, .int .u64 hd]) ∧ Below w.heap.size w w' := by
  go_enter Try.func27, Try.ntmps27
  go_wp2
  exact bodyPost_ret (v := .agg #[.slice ao n c, .int .u64 hd]) (by simp [results, Try.results27, go_sem]) rfl ⟨rfl, (Below.refl _ _).alloc (Nat.le_refl _) _⟩

set_option maxHeartbeats 800000 in
theorem zterms_any (a : Option Addr) (n c : Nat) (hd : Int) (G : Nat → Rn) (w : World) (hn : n ≤ 1000000) (ha : RRow w a n G) (han : NilOk a n) :
    Calls Try.prog 21 #[.slice a n c, .int .u64 hd] w fun e w' => ∃ rv, e = .returned (.agg #[rv, .int .u64 hd]) ∧ w'.ownsRow w.heap.size 48 2 rv n (rcells (gl G n)) ∧ Below w.heap.size w w' := by
  obtain ⟨i48, hi48, hy0, hy1, hy2⟩ := info_parts info48
  have hne49 := fun wx => run_neq_slice_nil_any (P := Try.prog) wx 49 52 a n c 0 0 Try.underlying49
  go_enter Try.func21, Try.ntmps21
  go_upto_if 8 with fail
  generalize hw1 : w.alloc (Obj.cells #[Value.slice none 0 0, Value.int IntKind.u64 0] 40) = w1
  have HW : Hid (w.alloc (Obj.cells #[Value.slice none 0 0, Value.int IntKind.u64 0] 40) = w1) := hw1
  have hs1 : Hid (w1.heap.size = w.heap.size + 1) := by show w1.heap.size = w.heap.size + 1; rw [← hw1]; simp
  have hb1 : Below w.heap.size w w1 := by rw [← hw1]; exact (Below.refl _ _).alloc (Nat.le_refl _) _
  clear hw1
  have ha1 := ha.kept hb1
  go_cut [5] (fun v wr => ∃ ao cp, v = .slice ao n cp ∧ wr.ownsRow w1.heap.size 48 2 (.slice ao n cp) n (rcells (gl G n)) ∧ Below w1.heap.size w1 wr)
  case first =>
    cases a with
    | none =>
      go_wp2
      go_meet
      exact ⟨none, 0, by rw [han.zero], by rw [han.zero]; exact World.ownsRow_nil _ _ _ _, Below.refl _ _⟩
    | some a =>
      go_wp2_with (at_make; refine wpList_make_full _ rfl _ _ 38 rfl w1.heap.size 48 i48 _ 2 Try.underlying38 hi48 hy0 hy1 .i64 .i64 _ _ n rfl rfl rfl rfl (by rw [hy2]; omega) (by unfold maxLen; omega) (Nat.le_refl _) ?_; intro wm hown hgr)
      have hbm : Below w1.heap.size w1 wm := (Below.refl _ _).grown hgr (Nat.le_refl _) (fun _ h => by cases h)
      go_loopw [6] (fun i wr => ∃ k : Nat, k ≤ n ∧ i = .int .i64 k ∧ FilledR wr w1.heap.size w1.heap.size n G k ∧ Below w1.heap.size w1 wr) (fun i _ => n - (intOf i).toNat)
      case atStart => exact ⟨0, Nat.zero_le _, rfl, FilledR.start hown, hbm⟩
      case round =>
        clear hown hgr hbm
        obtain ⟨k, hk, rfl, hf, hb⟩ := hrel
        by_cases hlt : k < n
        · rcases ha1 with h0 | ⟨b1, o1, h1, hc1⟩
          · omega
          obtain rfl : a = ⟨b1, o1, none⟩ := by simpa using h1
          obtain ⟨g0, g1⟩ := hc1 k hlt
          have g0 := kcell hb g0
          have g1 := kcell hb g1
          obtain ⟨⟨q0, hq0⟩, f0⟩ := hf.old (j := k * 2) (by omega)
          obtain ⟨⟨q1, hq1⟩, f1⟩ := hf.old (j := k * 2 + 1) (by omega)
          go_wp2
          go_roundw
          case rel => exact ⟨k + 1, by omega, by go_num, hf.step hlt, (hb.setCell (Nat.le_refl _) _).setCell (Nat.le_refl _) _⟩
          case measure => simp [intOf]; omega
        · have hkn : Hid (k = n) := by show k = n; omega
          go_wp2
          go_meet
          case rel => exact ⟨_, _, rfl, FilledR.done (by rw [hkn.out] at hf; exact hf), hb⟩
  case rest =>
    obtain ⟨ao, cp, rfl, hown, hb⟩ := hcut
    have cl : ∀ j, j < 2 → (∃ v, wc.cell? ⟨w.heap.size, j, none⟩ = some v) ∧ wc.frozen? ⟨w.heap.size, j, none⟩ = false := by
      intro j hj
      have hlt : w.heap.size < w1.heap.size := by rw [hs1.out]; omega
      rw [hb.cell (p := ⟨w.heap.size, j, none⟩) hlt, hb.frozen (p := ⟨w.heap.size, j, none⟩) hlt, ← HW.out]
      match j, hj with
      | 0, _ => simp
      | 1, _ => simp
    have hlw : w.heap.size < wc.heap.size := by have := hb.size; rw [hs1.out] at this; omega
    go_wp2_with fail
    refine (zzt27_any _ _ _ _ _).mono ?_
    rintro e w2 ⟨rfl, hb2⟩
    have cl2 : ∀ j, j < 2 → (∃ v, w2.cell? ⟨w.heap.size, j, none⟩ = some v) ∧ w2.frozen? ⟨w.heap.size, j, none⟩ = false := by
      intro j hj
      rw [hb2.cell (p := ⟨w.heap.size, j, none⟩) hlw, hb2.frozen (p := ⟨w.heap.size, j, none⟩) hlw]
      exact cl j hj
    obtain ⟨⟨q0, hq0⟩, f0⟩ := cl2 0 (by omega)
    obtain ⟨⟨q1, hq1⟩, f1⟩ := cl2 1 (by omega)
    clear cl cl2
    go_wp2
    refine bodyPost_ret (v := .agg #[.slice ao n cp, .int .u64 hd]) (by simp [results, Try.results21, go_sem, hq0, hq1]) rfl ⟨_, rfl, ?_, ?_⟩
    · have h2 : w2.ownsRow w1.heap.size 48 2 (.slice ao n cp) n (rcells (gl G n)) := by
        refine ⟨hown.1, ?_⟩
        rcases hown.2 with h | ⟨g, c', cur, hv, hg1, hg, rest⟩
        · exact .inl h
        · exact .inr ⟨g, c', cur, hv, hg1, (hb2.block g (Array.getElem?_eq_some_iff.1 hg).1).trans hg, rest⟩
      have hlt : w.heap.size < w1.heap.size := by rw [hs1.out]; omega
      have h3 := ownsRow_setCell_below (ownsRow_setCell_below h2 (a := ⟨w.heap.size, 0, none⟩) hlt (.slice ao n cp)) (a := ⟨w.heap.size, 1, none⟩) hlt (.int .u64 hd)
      obtain ⟨h4, h5⟩ := h3
      refine ⟨h4, ?_⟩
      rcases h5 with h | ⟨g, c', cur, hv, hg1, hg, rest⟩
      · exact .inl h
      · exact .inr ⟨g, c', cur, hv, by have := hb1.size; omega, hg, rest⟩
    · exact ((hb1.trans ((hb.trans (hb2.mono hb.size)).mono hb1.size)).setCell (Nat.le_refl _) _).setCell (Nat.le_refl _) _
end Go.Proofs.Qxb6617302a

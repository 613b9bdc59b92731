/-
  zzMembership: a membership whose members are those that came in, copied into memory of the call's own.
-/
import Derived.Test.Qxb6617302aVoters
import Derived.Deep.DeepCutAuto
namespace Go.Proofs.Qxb6617302a
open Go.RowKit
theorem info57 : (Try.prog.info? 57).map (fun i => (i.zero, i.size, i.bytes)) = some (some (.agg #[.int .u64 0, .string ByteArray.empty, .int .u64 0, .bool false]), 4, 40) := by kernel_rfl
theorem info26 : (Try.prog.info? 26).map (fun i => (i.zero, i.size, i.bytes)) = some (some (.agg #[.int .u64 0, .string ByteArray.empty, .int .u64 0, .bool false]), 4, 40) := by kernel_rfl

/-- Members that lie in a block from B on. -/
def MFrom (B : Nat) (w : World) (ao : Option Addr) (n : Nat) (M : Nat → Mb) : Prop :=
  MRow w ao n M ∧ ∀ b off, ao = some ⟨b, off, none⟩ → n = 0 ∨ B ≤ b

theorem cell_setCell_other {w : World} {p q : Addr} {u v : Value} (h : q.block ≠ p.block) (hc : w.cell? q = some v) : (w.setCell p u).cell? q = some v := by
  rw [World.cell?_of_block (w := w) (heap_setCell_other w p q.block u h)]
  exact hc

theorem MFrom.set {B : Nat} {w : World} {ao : Option Addr} {n : Nat} {M : Nat → Mb} (h : MFrom B w ao n M) {p : Addr} (hp : p.block < B) (u : Value) : MFrom B (w.setCell p u) ao n M := by
  refine ⟨?_, h.2⟩
  rcases h.1 with h0 | ⟨b, off, rfl, hc⟩
  · exact .inl h0
  · rcases h.2 b off rfl with h0 | hb
    · exact .inl h0
    · have hne : b ≠ p.block := by omega
      exact .inr ⟨b, off, rfl, fun i hi => ⟨cell_setCell_other hne (hc i hi).1, cell_setCell_other hne (hc i hi).2.1, cell_setCell_other hne (hc i hi).2.2.1, cell_setCell_other hne (hc i hi).2.2.2⟩⟩

theorem MFrom.kept {B : Nat} {w w' : World} {ao : Option Addr} {n : Nat} {M : Nat → Mb} (h : MFrom B w ao n M) (hb : Below w.heap.size w w') : MFrom B w' ao n M := ⟨h.1.kept hb, h.2⟩

/-- A row of 4n cells of the call's own whose first k members are M 0 .. M (k-1). -/
def Filled (w : World) (base e g n : Nat) (M : Nat → Mb) (k : Nat) : Prop :=
  ∃ xs : List Value, w.ownsRow base e 4 (.slice (some ⟨g, 0, none⟩) n n) n xs ∧
    ∀ i, i < k → xs[i * 4]? = some (.int .u64 (M i).id) ∧ xs[i * 4 + 1]? = some (.string (M i).addr) ∧ xs[i * 4 + 2]? = some (.int .u64 (M i).inc) ∧ xs[i * 4 + 3]? = some (.bool (M i).lrn)

theorem Filled.row {w : World} {base e g n : Nat} {M : Nat → Mb} (h : Filled w base e g n M n) : MRow w (some ⟨g, 0, none⟩) n M := by
  obtain ⟨xs, ho, hx⟩ := h
  refine .inr ⟨g, 0, rfl, fun i hi => ?_⟩
  obtain ⟨h0, h1, h2, h3⟩ := hx i hi
  rw [Nat.zero_add]
  exact ⟨(ho.cellAt _ (by omega)).trans h0, (ho.cellAt _ (by omega)).trans h1, (ho.cellAt _ (by omega)).trans h2, (ho.cellAt _ (by omega)).trans h3⟩

theorem Filled.old {w : World} {base e g n : Nat} {M : Nat → Mb} {k j : Nat} (h : Filled w base e g n M k) (hj : j < n * 4) : (∃ v, w.cell? ⟨g, j, none⟩ = some v) ∧ w.frozen? ⟨g, j, none⟩ = false := by
  obtain ⟨xs, ho, hx⟩ := h
  refine ⟨⟨xs[j]'(by rw [ho.1]; exact hj), ?_⟩, ho.frozenAt _⟩
  rw [ho.cellAt _ hj]
  exact List.getElem?_eq_getElem _

theorem Filled.step {w : World} {base e g n : Nat} {M : Nat → Mb} {k : Nat} (h : Filled w base e g n M k) (hk : k < n) :
    Filled ((((w.setCell ⟨g, k * 4, none⟩ (.int .u64 (M k).id)).setCell ⟨g, k * 4 + 1, none⟩ (.string (M k).addr)).setCell ⟨g, k * 4 + 2, none⟩ (.int .u64 (M k).inc)).setCell ⟨g, k * 4 + 3, none⟩ (.bool (M k).lrn)) base e g n M (k + 1) := by
  obtain ⟨xs, ho, hx⟩ := h
  have hl : xs.length = n * 4 := ho.1
  refine ⟨_, ((((ho.stored _ _).1.stored _ _).1.stored _ _).1.stored _ _).1, fun i hi => ?_⟩
  simp only [List.getElem?_set, List.length_set]
  by_cases he : i = k
  · subst he
    refine ⟨?_, ?_, ?_, ?_⟩
    all_goals repeat (first | rw [if_neg (by omega)] | rw [if_pos (by omega)])
  · obtain ⟨h0, h1, h2, h3⟩ := hx i (by omega)
    refine ⟨?_, ?_, ?_, ?_⟩
    all_goals repeat (rw [if_neg (by omega)])
    all_goals assumption

theorem Filled.start {w : World} {base e g n : Nat} {M : Nat → Mb} {xs : List Value} (h : w.ownsRow base e 4 (.slice (some ⟨g, 0, none⟩) n n) n xs) : Filled w base e g n M 0 := ⟨xs, h, fun _ hi => absurd hi (Nat.not_lt_zero _)⟩

set_option maxHeartbeats 400000 in
theorem membership_any (x y : Int) (a pb : Option Addr) (n c m d : Nat) (M : Nat → Mb) (U : Nat → Int) (w : World) (hn : n ≤ 1000000) (hm : m ≤ 1000000) (ha : MRow w a n M) (hp : URow w pb m U) (han : NilOk a n) (hpn : NilOk pb m) :
   Calls Try.prog 11 #[.int .u64 x, .int .u64 y, .slice a n c, .slice pb m d] w fun e w' => ∃ a' c' pb' m' d', e = .returned (.agg #[.int .u64 x, .int .u64 y, .slice a' n c', .slice pb' m' d']) ∧ MRow w' a' n M ∧ Below w.heap.size w w' := by
  obtain ⟨i0, hi, hz0, hz1, hz2⟩ := info_parts info22
  obtain ⟨i57, hi57, hy0, hy1, hy2⟩ := info_parts info57
  have hne23 := fun wx => run_neq_slice_nil_any (P := Try.prog) wx 23 26 a n c 0 0 Try.underlying23
  have hne24 := fun wx => run_neq_slice_nil_any (P := Try.prog) wx 24 22 pb m d 0 0 Try.underlying24
  go_enter Try.func11, Try.ntmps11
  go_upto_if 14 with fail
  generalize hw1 : w.alloc (Obj.cells #[Value.int IntKind.u64 0, Value.int IntKind.u64 0, Value.slice none 0 0, Value.slice none 0 0] 31) = w1
  have HW : Hid (w.alloc (Obj.cells #[Value.int IntKind.u64 0, Value.int IntKind.u64 0, Value.slice none 0 0, Value.slice none 0 0] 31) = w1) := hw1
  have hs1 : Hid (w1.heap.size = w.heap.size + 1) := by show w1.heap.size = w.heap.size + 1; rw [← hw1]; simp
  have hb1 : Below w.heap.size w w1 := by rw [← hw1]; exact (Below.refl _ _).alloc (Nat.le_refl _) _
  clear hw1
  have ha1 := ha.kept hb1
  have hp1 := hp.kept hb1
  go_cut [9] (fun v wr => ∃ a' c', v = .slice a' n c' ∧ MFrom w1.heap.size wr a' n M ∧ Below w1.heap.size w1 wr)
  case first =>
    cases a with
    | none =>
      go_wp2
      go_meet
      exact ⟨none, 0, by rw [han.zero], ⟨.inl han.zero, fun _ _ h => by cases h⟩, Below.refl _ _⟩
    | some a =>
      go_wp2_with (at_make; refine wpList_make_full _ rfl _ _ 29 rfl w1.heap.size 57 i57 _ 4 Try.underlying29 hi57 hy0 hy1 .i64 .i64 _ _ n rfl rfl rfl rfl (by rw [hy2]; omega) (by unfold maxLen; omega) (Nat.le_refl _) ?_; intro wm hown hgr)
      have hbm : Below w1.heap.size w1 wm := (Below.refl _ _).grown hgr (Nat.le_refl _) (fun _ h => by cases h)
      go_loopw [10] (fun i wr => ∃ k : Nat, k ≤ n ∧ i = .int .i64 k ∧ Filled wr w1.heap.size 57 w1.heap.size n M k ∧ Below w1.heap.size w1 wr) (fun i _ => n - (intOf i).toNat)
      case atStart => exact ⟨0, Nat.zero_le _, rfl, Filled.start hown, hbm⟩
      case round =>
        clear hown hgr hbm
        obtain ⟨k, hk, rfl, hf, hb⟩ := hrel
        by_cases hlt : k < n
        · rcases ha1 with h0 | ⟨b1, o1, h1, hc1⟩
          · omega
          obtain rfl : a = ⟨b1, o1, none⟩ := by simpa using h1
          obtain ⟨g0, g1, g2, g3⟩ := hc1 k hlt
          have g0 := kcell hb g0
          have g1 := kcell hb g1
          have g2 := kcell hb g2
          have g3 := kcell hb g3
          obtain ⟨⟨q0, hq0⟩, f0⟩ := hf.old (j := k * 4) (by omega)
          obtain ⟨⟨q1, hq1⟩, f1⟩ := hf.old (j := k * 4 + 1) (by omega)
          obtain ⟨⟨q2, hq2⟩, f2⟩ := hf.old (j := k * 4 + 2) (by omega)
          obtain ⟨⟨q3, hq3⟩, f3⟩ := hf.old (j := k * 4 + 3) (by omega)
          go_wp2
          go_roundw
          case rel => exact ⟨k + 1, by omega, by go_num, hf.step hlt, (((hb.setCell (Nat.le_refl _) _).setCell (Nat.le_refl _) _).setCell (Nat.le_refl _) _).setCell (Nat.le_refl _) _⟩
          case measure => simp [intOf]; omega
        · have hkn : Hid (k = n) := by show k = n; omega
          go_wp2
          go_meet
          case rel => exact ⟨_, _, rfl, ⟨Filled.row (by rw [hkn.out] at hf; exact hf), fun b off h => .inr (by injection h with h; injection h with h _ _; omega)⟩, hb⟩
  case rest =>
    obtain ⟨a', c', rfl, hM, hb⟩ := hcut
    have cl : ∀ j, j < 4 → (∃ v, wc.cell? ⟨w.heap.size, j, none⟩ = some v) ∧ wc.frozen? ⟨w.heap.size, j, none⟩ = false := by
      intro j hj
      have hlt : w.heap.size < w1.heap.size := by rw [hs1.out]; omega
      rw [hb.cell (p := ⟨w.heap.size, j, none⟩) hlt, hb.frozen (p := ⟨w.heap.size, j, none⟩) hlt, ← HW.out]
      match j, hj with
      | 0, _ => simp
      | 1, _ => simp
      | 2, _ => simp
      | 3, _ => simp
    cases pb with
    | none =>
      obtain ⟨⟨q0, hq0⟩, f0⟩ := cl 0 (by omega)
      obtain ⟨⟨q1, hq1⟩, f1⟩ := cl 1 (by omega)
      obtain ⟨⟨q2, hq2⟩, f2⟩ := cl 2 (by omega)
      obtain ⟨⟨q3, hq3⟩, f3⟩ := cl 3 (by omega)
      clear cl
      go_wp2
      refine bodyPost_ret (v := .agg #[.int .u64 x, .int .u64 y, .slice a' n c', .slice none 0 0]) (by simp [results, Try.results11, go_sem, hq0, hq1, hq2, hq3]) rfl ⟨a', c', none, 0, 0, rfl, ?_, ?_⟩
      · have hlt : w.heap.size < w1.heap.size := by rw [hs1.out]; omega
        exact ((((hM.set hlt _).set hlt _).set hlt _).set hlt _).1
      · exact ((((hb1.trans (hb.mono hb1.size)).setCell (Nat.le_refl _) _).setCell (Nat.le_refl _) _).setCell (Nat.le_refl _) _).setCell (Nat.le_refl _) _
    | some pb =>
      go_wp2_with (at_make; refine wpList_make_full _ rfl _ _ 24 rfl wc.heap.size 22 i0 _ 1 Try.underlying24 hi hz0 hz1 .i64 .i64 _ _ m rfl rfl rfl rfl (by rw [hz2]; omega) (by unfold maxLen; omega) (Nat.le_refl _) ?_; intro wm hown hgr)
      have hbm : Below wc.heap.size wc wm := (Below.refl _ _).grown hgr (Nat.le_refl _) (fun _ h => by cases h)
      go_loopw [12] (fun i wr => ∃ k : Nat, k ≤ m ∧ i = .int .i64 k ∧ (∃ xs, wr.ownsRow wc.heap.size 22 1 (.slice (some ⟨wc.heap.size, 0, none⟩) m m) m xs) ∧ Below wc.heap.size wc wr) (fun i _ => m - (intOf i).toNat)
      case atStart => exact ⟨0, Nat.zero_le _, rfl, ⟨_, hown⟩, hbm⟩
      case round =>
        clear hown hgr hbm
        obtain ⟨k, hk, rfl, ⟨xs, hf⟩, hbk⟩ := hrel
        by_cases hlt : k < m
        · rcases hp1 with h0 | ⟨b1, o1, h1, hc1⟩
          · omega
          obtain rfl : pb = ⟨b1, o1, none⟩ := by simpa using h1
          have g0 := kcell hbk (kcell hb (hc1 k hlt))
          obtain ⟨q0, hq0⟩ : ∃ q, wr.cell? ⟨wc.heap.size, k, none⟩ = some q := by
            rw [hf.cellAt k (by omega)]
            exact ⟨_, List.getElem?_eq_getElem (by rw [hf.1]; omega)⟩
          have f0 := hf.frozenAt k
          have hown2 := (hf.stored k (.int .u64 (U k))).1
          clear hf cl
          go_wp2
          go_roundw
          case rel => exact ⟨k + 1, by omega, by go_num, ⟨_, hown2⟩, hbk.setCell (Nat.le_refl _) _⟩
          case measure => simp [intOf]; omega
        · have cl2 : ∀ j, j < 4 → (∃ v, wr.cell? ⟨w.heap.size, j, none⟩ = some v) ∧ wr.frozen? ⟨w.heap.size, j, none⟩ = false := by
            intro j hj
            have hlt : w.heap.size < wc.heap.size := by have := hb.size; rw [hs1.out] at this; omega
            rw [hbk.cell (p := ⟨w.heap.size, j, none⟩) hlt, hbk.frozen (p := ⟨w.heap.size, j, none⟩) hlt]
            exact cl j hj
          clear cl
          obtain ⟨⟨q0, hq0⟩, f0⟩ := cl2 0 (by omega)
          obtain ⟨⟨q1, hq1⟩, f1⟩ := cl2 1 (by omega)
          obtain ⟨⟨q2, hq2⟩, f2⟩ := cl2 2 (by omega)
          obtain ⟨⟨q3, hq3⟩, f3⟩ := cl2 3 (by omega)
          clear cl2
          go_wp2
          refine bodyPost_ret (v := .agg #[.int .u64 x, .int .u64 y, .slice a' n c', .slice (some ⟨wc.heap.size, 0, none⟩) m m]) (by simp [results, Try.results11, go_sem, hq0, hq1, hq2, hq3]) rfl ⟨a', c', _, _, _, rfl, ?_, ?_⟩
          · have hlt : w.heap.size < w1.heap.size := by rw [hs1.out]; omega
            exact (((((hM.kept hbk).set hlt _).set hlt _).set hlt _).set hlt _).1
          · exact ((((hb1.trans ((hb.trans (hbk.mono hb.size)).mono hb1.size)).setCell (Nat.le_refl _) _).setCell (Nat.le_refl _) _).setCell (Nat.le_refl _) _).setCell (Nat.le_refl _) _
end Go.Proofs.Qxb6617302a

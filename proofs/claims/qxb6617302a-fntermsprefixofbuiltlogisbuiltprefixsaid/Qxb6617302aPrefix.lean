/-
  slices.Clone at runs, (Terms).Prefix, zzRunsEqual.
-/
import Derived.Test.Qxb6617302aZTerms
import Derived.Lib.LazyBuf
namespace Go.Proofs.Qxb6617302a
open Go.RowKit

/-- The cells of runs that lie in a row. -/
theorem rrow_cells {w : World} {b off n : Nat} {G : Nat → Rn} (h : ∀ i, i < n → w.cell? ⟨b, off + i * 2, none⟩ = some (.int .u64 (G i).first) ∧ w.cell? ⟨b, off + i * 2 + 1, none⟩ = some (.int .u64 (G i).term)) :
    ∀ j u, (rcells (gl G n))[j]? = some u → w.cell? ((⟨b, off, none⟩ : Addr).add j) = some u := by
  intro j u hj
  have hlen : (rcells (gl G n)).length = n * 2 := by rw [rcells_length, gl_length]
  have hjn : j < n * 2 := by
    by_cases h0 : j < n * 2
    · exact h0
    · rw [List.getElem?_eq_none (by omega)] at hj; cases hj
  have hi : j / 2 < n := by omega
  have hi' : j / 2 < (gl G n).length := by rw [gl_length]; exact hi
  have e1 := rcells_first (gl G n) (j / 2) hi'
  have e2 := rcells_term (gl G n) (j / 2) hi'
  rw [← nth_get hi', gl_nth G hi] at e1 e2
  obtain ⟨h1, h2⟩ := h _ hi
  have ea : (⟨b, off, none⟩ : Addr).add j = ⟨b, off + j, none⟩ := by unfold Addr.add; by_cases h0 : j = 0 <;> simp [h0]
  rw [ea]
  rcases (show j = j / 2 * 2 ∨ j = j / 2 * 2 + 1 by omega) with hh | hh
  · rw [hh, e1] at hj
    rw [hh, h1, hj]
  · rw [hh, e2] at hj
    rw [hh, ← Nat.add_assoc, h2, hj]

theorem rcells_oneCell (R : List Rn) : ∀ u ∈ rcells R, u.oneCell' = true := by
  induction R with
  | nil => intro u hu; simp [rcells] at hu
  | cons r R ih =>
    intro u hu
    rw [rcells] at hu
    rcases List.mem_append.1 hu with h | h
    · simp [Rn.vals] at h
      rcases h with rfl | rfl <;> rfl
    · exact ih u h

set_option maxHeartbeats 400000 in
theorem clone_any (a : Option Addr) (n c : Nat) (G : Nat → Rn) (w : World) (hn : n ≤ 1000000) (ha : RRow w a n G) (han : NilOk a n) :
    Calls Try.prog 28 #[.slice a n c] w fun e w' => ∃ rv, e = .returned rv ∧ w'.ownsRow w.heap.size 48 2 rv n (rcells (gl G n)) ∧ Below w.heap.size w w' := by
  obtain ⟨i48, hi48, hy0, hy1, hy2⟩ := info_parts info48
  have heq := fun wx => Lib.run_eql_slice_nil (P := Try.prog) wx 38 48 a n c 0 0 Try.underlying38
  cases a with
  | none =>
    have h0 := han.zero
    subst h0
    go_enter Try.func28, Try.ntmps28
    go_wp2
    go_ret
    exact ⟨_, rfl, World.ownsRow_nil _ _ _ _, Below.refl _ _⟩
  | some ad =>
    have hnews : ∀ j u, (rcells (gl G n))[j]? = some u → (w.alloc (.cells #[] 48)).cell? (ad.add j) = some u := by
      rcases ha.kept ((Below.refl w.heap.size w).alloc (Nat.le_refl _) (.cells #[] 48)) with h0 | ⟨b, off, h, hc⟩
      · subst h0
        intro j u hj
        simp [gl, rcells] at hj
      · obtain rfl : ad = ⟨b, off, none⟩ := by simpa using h
        exact rrow_cells hc
    have hlen : (rcells (gl G n)).length = n * 2 := by rw [rcells_length, gl_length]
    have hown : (w.alloc (.cells #[] 48)).ownsRow w.heap.size 48 2 (.slice (some ⟨w.heap.size, 0, none⟩) 0 0) 0 [] := World.ownsRow_lit w #[] 0 (Nat.le_refl _) (Nat.zero_le _) rfl
    have h1 := rcells_oneCell (gl G n)
    generalize rcells (gl G n) = cs at *
    go_enter Try.func28, Try.ntmps28
    go_wp2_with (at_builtin; refine wpList_append_own _ rfl _ _ 38 rfl w.heap.size 48 i48 _ 2 16 Try.underlying38 hi48 hy0 hy1 hy2 rfl (by decide) _ 0 [] rfl hown ad n c cs rfl hlen hnews h1 (by unfold maxLen; omega) (by omega) (by simp) ?_; intro v' w1 hown1 hgrow _)
    go_ret
    refine ⟨_, rfl, by simpa using hown1, ?_⟩
    exact ((Below.refl _ _).alloc (Nat.le_refl _) _).grown hgrow (by simp) (fun k hk => (hown.lt k hk).1)

/-- The runs that start below h, from the first on, are the first k. -/
structure Lead (G : Nat → Rn) (n : Nat) (h : Int) (k : Nat) : Prop where
  le : k ≤ n
  lo : ∀ i, i < k → (G i).first < h
  hi : k < n → ¬ (G k).first < h

theorem Lead.unique {G : Nat → Rn} {n : Nat} {h : Int} {k k' : Nat} (a : Lead G n h k) (b : Lead G n h k') : k = k' := by
  rcases Nat.lt_trichotomy k k' with hlt | he | hlt
  · exact absurd (b.lo k hlt) (a.hi (by have := b.le; omega))
  · exact he
  · exact absurd (a.lo k' hlt) (b.hi (by have := a.le; omega))

theorem pref_end {w wc w2 : World} {aa : Option Addr} {k cc : Nat} {mh : Int} {cs : List Value} (hs : wc.heap.size = w.heap.size + 2) (hb0 : Below w.heap.size w wc) (hb2 : Below wc.heap.size wc w2) (hown : w2.ownsRow wc.heap.size 48 2 (.slice aa k cc) k cs) :
    ((w2.setCell ⟨w.heap.size + 1, 0, none⟩ (.slice aa k cc)).setCell ⟨w.heap.size + 1, 1, none⟩ (.int .u64 mh)).ownsRow w.heap.size 48 2 (.slice aa k cc) k cs ∧
    Below w.heap.size w ((w2.setCell ⟨w.heap.size + 1, 0, none⟩ (.slice aa k cc)).setCell ⟨w.heap.size + 1, 1, none⟩ (.int .u64 mh)) := by
  refine ⟨?_, ?_⟩
  · have h3 := ownsRow_setCell_below (ownsRow_setCell_below hown (a := ⟨w.heap.size + 1, 0, none⟩) (by rw [hs]; show w.heap.size + 1 < _; omega) (.slice aa k cc)) (a := ⟨w.heap.size + 1, 1, none⟩) (by rw [hs]; show w.heap.size + 1 < _; omega) (.int .u64 mh)
    obtain ⟨h4, h5⟩ := h3
    refine ⟨h4, ?_⟩
    rcases h5 with h | ⟨g, c', cur, hv, hg1, hg, rest⟩
    · exact .inl h
    · exact .inr ⟨g, c', cur, hv, by omega, hg, rest⟩
  · exact ((hb0.trans (hb2.mono hb0.size)).setCell (show w.heap.size ≤ w.heap.size + 1 by omega) _).setCell (show w.heap.size ≤ w.heap.size + 1 by omega) _

set_option maxHeartbeats 800000 in
theorem prefix_any (a : Option Addr) (n c : Nat) (hd h mh : Int) (G : Nat → Rn) (w : World) (hmh : Hid (mh = min h hd)) (hn : n ≤ 1000000) (hnc : n ≤ c) (ha : RRow w a n G) (han : NilOk a n) :
    Calls Try.prog 23 #[.agg #[.slice a n c, .int .u64 hd], .int .u64 h] w fun e w' => ∃ rv k, e = .returned (.agg #[rv, .int .u64 mh]) ∧ Lead G n mh k ∧ w'.ownsRow w.heap.size 48 2 rv k (rcells (gl G k)) ∧ Below w.heap.size w w' := by
  have hb0 : Below w.heap.size w ((w.alloc (.cells #[.slice a n c, .int .u64 hd] 40)).alloc (.cells #[.slice none 0 0, .int .u64 0] 40)) := ((Below.refl _ _).alloc (Nat.le_refl _) _).alloc (by simp) _
  have ha0 := ha.kept hb0
  go_enter Try.func23, Try.ntmps23
  go_upto_region 1 with fail
  go_cut [1] (fun v wr => v = .int .u64 mh ∧ wr = ((w.alloc (.cells #[.slice a n c, .int .u64 hd] 40)).alloc (.cells #[.slice none 0 0, .int .u64 0] 40)))
  case first =>
    by_cases hlt : h ≤ hd
    · have hm : Hid (min h hd = h) := Int.min_eq_left hlt
      go_wp2
      go_meet
      case rel => exact ⟨by rw [hmh.out, hm.out], rfl⟩
    · have hm : Hid (min h hd = hd) := Int.min_eq_right (by omega)
      go_wp2
      go_meet
      case rel => exact ⟨by rw [hmh.out, hm.out], rfl⟩
  case rest =>
    obtain ⟨rfl, hwc⟩ := hcut
    have q0 : wc.cell? ⟨w.heap.size, 0, none⟩ = some (.slice a n c) := by rw [hwc]; simp
    have q1 : wc.cell? ⟨w.heap.size + 1, 0, none⟩ = some (.slice none 0 0) := by rw [hwc]; simp
    have q2 : wc.cell? ⟨w.heap.size + 1, 1, none⟩ = some (.int .u64 0) := by rw [hwc]; simp
    have f1 : wc.frozen? ⟨w.heap.size + 1, 0, none⟩ = false := by rw [hwc]; simp
    have f2 : wc.frozen? ⟨w.heap.size + 1, 1, none⟩ = false := by rw [hwc]; simp
    have hs : Hid (wc.heap.size = w.heap.size + 2) := by show _ = _; rw [hwc]; simp
    rw [← hwc] at ha0 hb0
    clear hwc
    go_wp2
    go_loop [5] (fun i => ∃ k : Nat, k ≤ n ∧ i = .int .i64 k ∧ ∀ i, i < k → (G i).first < mh) (fun i => n - (intOf i).toNat)
    case atStart => exact ⟨0, Nat.zero_le _, rfl, fun _ hi => absurd hi (Nat.not_lt_zero _)⟩
    case round =>
      obtain ⟨k, hk, rfl, hlo⟩ := hrel
      have HLO : Hid (∀ i, i < k → (G i).first < mh) := hlo
      clear hlo
      have fin : (k < n → ¬ (G k).first < mh) → Hid (Lead G n mh k) := fun h => ⟨hk, HLO.out, h⟩
      by_cases hlt : k < n
      · rcases ha0 with h0 | ⟨b, off, rfl, hc⟩
        · omega
        have g0 := (hc k hlt).1
        have HC : Hid (∀ i, i < n → wc.cell? ⟨b, off + i * 2, none⟩ = some (.int .u64 (G i).first) ∧ wc.cell? ⟨b, off + i * 2 + 1, none⟩ = some (.int .u64 (G i).term)) := hc
        clear hc
        by_cases hf : (G k).first < mh
        · go_wp2
          go_round
          case rel =>
            refine ⟨k + 1, by omega, by go_num, fun i hi => ?_⟩
            by_cases he : i = k
            · rw [he]; exact hf
            · exact HLO.out i (by omega)
          case measure => simp [intOf]; omega
        · have hL := fin (fun _ => hf)
          have HRR : RRow wc (some ⟨b, off, none⟩) k G := .inr ⟨b, off, rfl, fun i hi => HC.out i (by omega)⟩
          have HNIL : NilOk (some ⟨b, off, none⟩) k := fun h => by cases h
          go_wp2_with fail
          refine (clone_any _ _ _ G _ (by omega) HRR HNIL).mono ?_
          rintro e w2 ⟨rv, rfl, hown, hb2⟩
          obtain ⟨aa, cc, rfl⟩ : ∃ aa cc, rv = .slice aa k cc := by
            rcases hown.2 with ⟨h, h0⟩ | ⟨g, cap, cur, h, _⟩
            · exact ⟨none, 0, by rw [h0]; exact h⟩
            · exact ⟨_, _, h⟩
          have q1' := kcell hb2 q1
          have q2' := kcell hb2 q2
          have f1' := (hb2.frozen (p := ⟨w.heap.size + 1, 0, none⟩) (by rw [hs.out]; show w.heap.size + 1 < _; omega)).trans f1
          have f2' := (hb2.frozen (p := ⟨w.heap.size + 1, 1, none⟩) (by rw [hs.out]; show w.heap.size + 1 < _; omega)).trans f2
          have RES := pref_end hs.out hb0 hb2 hown (mh := mh)
          clear hown q0 q1 q2 f1 f2 hb2 hb0 ha
          go_wp2
          refine bodyPost_ret (v := .agg #[.slice aa k cc, .int .u64 mh]) (by simp [results, Try.results23, go_sem, q1', q2']) rfl ⟨_, k, rfl, hL.out, RES⟩
      · have hL := fin (fun h => absurd h hlt)
        have HRR : RRow wc a k G := by rw [show k = n by omega]; exact ha0
        have HNIL : NilOk a k := by rw [show k = n by omega]; exact han
        go_wp2_with fail
        refine (clone_any _ _ _ G _ (by omega) HRR HNIL).mono ?_
        rintro e w2 ⟨rv, rfl, hown, hb2⟩
        obtain ⟨aa, cc, rfl⟩ : ∃ aa cc, rv = .slice aa k cc := by
          rcases hown.2 with ⟨h, h0⟩ | ⟨g, cap, cur, h, _⟩
          · exact ⟨none, 0, by rw [h0]; exact h⟩
          · exact ⟨_, _, h⟩
        have q1' := kcell hb2 q1
        have q2' := kcell hb2 q2
        have f1' := (hb2.frozen (p := ⟨w.heap.size + 1, 0, none⟩) (by rw [hs.out]; show w.heap.size + 1 < _; omega)).trans f1
        have f2' := (hb2.frozen (p := ⟨w.heap.size + 1, 1, none⟩) (by rw [hs.out]; show w.heap.size + 1 < _; omega)).trans f2
        have RES := pref_end hs.out hb0 hb2 hown (mh := mh)
        clear hown q0 q1 q2 f1 f2 hb2 hb0 ha
        go_wp2
        refine bodyPost_ret (v := .agg #[.slice aa k cc, .int .u64 mh]) (by simp [results, Try.results23, go_sem, q1', q2']) rfl ⟨_, k, rfl, hL.out, RES⟩

/-- zzRunsEqual at two slices that hold the same. -/
theorem runsEq_any (a b : Option Addr) (n c m d : Nat) (G G' : Nat → Rn) (w : World) (hn : n ≤ maxLen) (ha : RRow w a n G) (hb : RRow w b m G') (hnm : Hid (n = m)) (hG : Hid (∀ i, i < n → G i = G' i)) :
   Calls Try.prog 24 #[.slice a n c, .slice b m d] w fun e w' => e = .returned (.bool true) ∧ Below w.heap.size w w' := by
  unfold maxLen at hn
  have e := hnm.out
  subst e
  clear hnm
  go_enter Try.func24, Try.ntmps24
  go_wp2
  go_loopw [5] (fun i wr => ∃ k : Nat, k ≤ n ∧ i = .int .i64 k ∧ ∃ q, wr = w.drewN q) (fun i _ => n - (intOf i).toNat)
  case atStart => exact ⟨0, Nat.zero_le _, rfl, 0, rfl⟩
  case round =>
    obtain ⟨k, hk, rfl, q, rfl⟩ := hrel
    by_cases hlt : k < n
    · rcases ha with h0 | ⟨b1, o1, rfl, hc1⟩
      · omega
      rcases hb with h0 | ⟨b2, o2, rfl, hc2⟩
      · omega
      obtain ⟨k0, k1⟩ := hc1 k hlt
      obtain ⟨k2, k3⟩ := hc2 k hlt
      rw [← hG.out k hlt] at k2 k3
      obtain ⟨ff, hff⟩ : ∃ x, Hid ((G k).first = x) := ⟨_, rfl⟩
      obtain ⟨tt, htt⟩ : ∃ x, Hid ((G k).term = x) := ⟨_, rfl⟩
      rw [hff.out] at k0 k2
      rw [htt.out] at k1 k3
      have e1 : (ff != ff) = false := by simp
      have e2 : (tt != tt) = false := by simp
      clear hc1 hc2
      go_wp2
      go_quiet (fail)
      go_wp2
      go_roundw
      case rel => exact ⟨k + 1, by omega, by go_num, _, rfl⟩
      case measure => simp [intOf]; omega
    · go_wp2
      go_ret
      exact ⟨rfl, below_drewN (Below.refl _ _) _⟩

end Go.Proofs.Qxb6617302a

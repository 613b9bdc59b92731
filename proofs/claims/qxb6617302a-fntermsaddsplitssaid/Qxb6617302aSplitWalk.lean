/-
  THE WALK of 'FnTermsAddSplits': out of the contracts of its callees.
-/
import Derived.Test.Qxb6617302aSplitPlain
import Derived.Deep.DeepCutAuto
namespace Go.Proofs.Qxb6617302a
open Go.RowKit

theorem addR_len (R : List Rn) (hd t n : Int) : (addR R hd t n).length ≤ R.length + 1 := by
  unfold addR
  split
  · omega
  · split
    · omega
    · simp

theorem RRow.at {w : World} {ao : Option Addr} {n : Nat} {G : Nat → Rn} (h : RRow w ao n G) {i : Nat} (hi : i < n) :
    ∃ b off, ao = some ⟨b, off, none⟩ ∧ w.cell? ⟨b, off + i * 2, none⟩ = some (.int .u64 (G i).first) ∧ w.cell? ⟨b, off + i * 2 + 1, none⟩ = some (.int .u64 (G i).term) := by
  rcases h with h | ⟨b, off, h, hc⟩
  · omega
  · exact ⟨b, off, h, hc i hi⟩

theorem gl_last (G : Nat → Rn) {n : Nat} (h : 0 < n) : (gl G n).getLast?.map Rn.term = some (G (n - 1)).term := by
  rw [last_nth (by intro e; have := gl_length G n; rw [e] at this; simp at this; omega), gl_length, gl_nth G (by omega)]
  rfl

set_option maxRecDepth 100000 in
set_option maxHeartbeats 2000000 in
theorem split_walk (r : Option Addr) (n c : Nat) (hd t a b : Int) (G : Nat → Rn) (w : World) (hn : n ≤ maxLen) (hr : RRow w r n G) (hrn : NilOk r n)
    (hh0 : 0 ≤ hd) (hh1 : hd ≤ 18446744073709551615) (ha0 : 0 ≤ a) (ha1 : a ≤ 18446744073709551615) (hb0 : 0 ≤ b) (hb1 : b ≤ 18446744073709551615) :
   Calls Try.prog 6 #[.slice r n c, .int .u64 hd, .int .u64 t, .int .u64 a, .int .u64 b] w fun e w' => e = .returned (.bool true) ∧ Below w.heap.size w w' := by
  by_cases hnl : n ≤ 65536
  rotate_left
  · go_enter Try.func6, Try.ntmps6
    go_wp2_with fail
    refine (bytes20_any _ _ _ _ _ _ _ _ hn).mono ?_
    rintro e w' ⟨rfl | rfl, hw⟩
    all_goals
      subst hw
      go_wp2
      go_ret
      exact ⟨rfl, Below.refl _ _⟩
  by_cases hab : a ≤ 18446744073709551615 - b
  rotate_left
  · go_enter Try.func6, Try.ntmps6
    go_wp2_with fail
    refine (bytes20_any _ _ _ _ _ _ _ _ hn).mono ?_
    rintro e w' ⟨rfl | rfl, hw⟩
    all_goals
      subst hw
      go_wp2
      go_ret
      exact ⟨rfl, Below.refl _ _⟩
  go_enter Try.func6, Try.ntmps6
  go_wp2_with fail
  refine (bytes20_any _ _ _ _ _ _ _ _ hn).mono ?_
  rintro e w' ⟨rfl | rfl, hw⟩
  rotate_left
  · subst hw
    go_wp2
    go_ret
    exact ⟨rfl, Below.refl _ _⟩
  subst hw
  go_wp2_with fail
  refine (zterms_any _ _ _ hd G _ (by omega) hr hrn).mono ?_
  rintro e w1 ⟨rv1, rfl, hown1, hb2⟩
  obtain ⟨ao1, cp1, hv1⟩ : ∃ ao cp, rv1 = .slice ao n cp := by
    rcases hown1.2 with ⟨h, h0⟩ | ⟨g, cap, cur, h, _⟩
    · exact ⟨none, 0, by rw [h0]; exact h⟩
    · exact ⟨_, _, h⟩
  subst hv1
  have hlR : (gl G n).length = n := gl_length G n
  obtain ⟨R0, hR0⟩ : ∃ R, Hid (gl G n = R) := ⟨_, rfl⟩
  rw [hR0.out] at hown1 hlR
  have HlR : Hid (R0.length = n) := hlR
  have T0 : TSt (w1.alloc (Obj.cells #[Value.slice ao1 n cp1, Value.int IntKind.u64 hd] 40)) w'.heap.size w1.heap.size (.slice ao1 n cp1) R0 hd := ⟨heap_alloc_new _ _, by rw [HlR.out]; exact hown1.alloc _⟩
  have hb3 : Below w'.heap.size w' (w1.alloc (Obj.cells #[Value.slice ao1 n cp1, Value.int IntKind.u64 hd] 40)) := hb2.alloc hb2.size _
  have hs3 := hb3.size
  have hs2 := hb2.size
  have hlen1 := addR_len R0 hd t a
  have hlen2 := addR_len (addR R0 hd t a) (addH hd a) t b
  have hbd := addH_bounds hd a
  clear hown1 hlR
  go_wp2_with fail
  refine (zzadd_any w'.heap.size w1.heap.size _ R0 hd t a _ T0 hs3 (by rw [HlR.out]; omega) hh0 hh1 ha0).mono ?_
  rintro e w2 ⟨rfl, rv2, T1, mv1, kb1⟩
  have hb4 : Below w'.heap.size w' w2 := hb3.trans (T0.below kb1 hs2 (Nat.le_refl _) hs3)
  have hs4 := hb4.size
  clear T0 mv1 kb1 hb3
  go_wp2_with fail
  refine (zzadd_any w'.heap.size w1.heap.size _ (addR R0 hd t a) (addH hd a) t b _ T1 hs4 (by rw [HlR.out] at hlen1; omega) hbd.1 hbd.2 hb0).mono ?_
  rintro e w3 ⟨rfl, rv3, T2, mv2, kb2⟩
  have hb5 : Below w'.heap.size w' w3 := hb4.trans (T1.below kb2 hs2 (Nat.le_refl _) hs4)
  rw [addR_split ha0 hb0 hh0 hh1, addH_split] at T2
  clear T1 mv2 kb2 hb4 hlen1 hlen2 hbd
  have hr3 := hr.kept hb5
  go_wp2_with fail
  refine (zterms_any _ _ _ hd G _ (by omega) hr3 hrn).mono ?_
  rintro e w4 ⟨rv4, rfl, hown4, hb6⟩
  obtain ⟨ao4, cp4, hv4⟩ : ∃ ao cp, rv4 = .slice ao n cp := by
    rcases hown4.2 with ⟨h, h0⟩ | ⟨g, cap, cur, h, _⟩
    · exact ⟨none, 0, by rw [h0]; exact h⟩
    · exact ⟨_, _, h⟩
  subst hv4
  rw [hR0.out] at hown4
  have T4 : TSt (w4.alloc (Obj.cells #[Value.slice ao4 n cp4, Value.int IntKind.u64 hd] 40)) w3.heap.size w4.heap.size (.slice ao4 n cp4) R0 hd := ⟨heap_alloc_new _ _, by rw [HlR.out]; exact hown4.alloc _⟩
  have hb7 : Below w3.heap.size w3 (w4.alloc (Obj.cells #[Value.slice ao4 n cp4, Value.int IntKind.u64 hd] 40)) := hb6.alloc hb6.size _
  have T2b := T2.kept hb7
  have hl2 := T2.lt
  have hs6 := hb6.size
  have hs7 := hb7.size
  clear T2 hr3
  go_wp2_with fail
  refine (zzadd_any w3.heap.size w4.heap.size _ R0 hd t (a + b) _ T4 hs7 (by rw [HlR.out]; omega) hh0 hh1 (by omega)).mono ?_
  rintro e w5 ⟨rfl, rv5, T5, mv5, kb5⟩
  have T3 := T2b.other kb5 (by omega) (fun h => by have := (hown4.lt _ h.symm).1; omega) (fun g hg => ⟨by have := hl2.2 g hg; omega, fun h => by have := (hown4.lt _ h.symm).1; have := hl2.2 g hg; omega⟩)
  have hb8 : Below w'.heap.size w' w5 := (hb5.trans (hb7.mono hb5.size)).trans ((T4.below kb5 hs6 (Nat.le_refl _) hs7).mono hb5.size)
  clear T4 T2b mv5 kb5 hb7 hl2 hown4 hs6 hs7 hb5 hb6 hs2 hs3 hs4
  obtain ⟨E, hE⟩ : ∃ E, Hid (addR R0 hd t (a + b) = E) := ⟨_, rfl⟩
  obtain ⟨hd2, hhd2⟩ : ∃ h, Hid (addH hd (a + b) = h) := ⟨_, rfl⟩
  rw [hE.out, hhd2.out] at T3 T5
  obtain ⟨ao3, cp3, rfl, hRR3, _⟩ := RRow.of_owns T3.own
  obtain ⟨ao5, cp5, rfl, hRR5, _⟩ := RRow.of_owns T5.own
  obtain ⟨c30, c31, _, _, _⟩ := T3.cells
  obtain ⟨c50, c51, _, _, _⟩ := T5.cells
  have hr5 := hr.kept hb8
  clear T3 T5 hr hb2
  generalize w1.heap.size = bt1 at *
  generalize w4.heap.size = bt2 at *
  go_upto_region 13 with fail
  have hwh : IntKind.u64.wrap (IntKind.u64.wrap (hd + a) + b) = hd2 := by
    rw [IntKind.wrap_u64, IntKind.wrap_u64, ← hhd2.out]; unfold addH; omega
  rw [hwh]
  clear hwh
  go_cut [14] (fun v wr => v = .bool (grows R0 t (a + b)) ∧ wr = w5)
  case first =>
    clear c30 c31 c50 c51 hRR3 hRR5
    by_cases hz : a + b = 0
    · have hg : Hid (grows R0 t (a + b) = false) := by show _ = _; unfold grows; simp [hz]
      have hlt : ¬ 0 < a + b := by omega
      clear hz
      go_wp2
      go_meet
      case rel => exact ⟨by rw [hg.out], rfl⟩
    · have hlt : 0 < a + b := by omega
      have Hz : Hid (a + b ≠ 0) := hz
      clear hz
      by_cases hn0 : n = 0
      · have hg : Hid (grows R0 t (a + b) = true) := by
          show _ = _
          have e : R0 = [] := List.eq_nil_of_length_eq_zero (HlR.out.trans hn0)
          unfold grows
          rw [e]
          simp [Hz.out]
        have hnn : ((n : Int) == 0) = true := by simp [hn0]
        clear hn0
        go_wp2
        go_meet
        case rel => exact ⟨by rw [hg.out], rfl⟩
      · have hnn : ((n : Int) == 0) = false := by simp; omega
        have hnp : 0 < n := by omega
        obtain ⟨bb, oo, rfl, _, ct⟩ := hr5.at (i := n - 1) (by omega)
        have hlast : Hid (R0.getLast?.map Rn.term = some (G (n - 1)).term) := by rw [← hR0.out]; exact gl_last G hnp
        obtain ⟨lt, hlt2⟩ : ∃ x, Hid ((G (n - 1)).term = x) := ⟨_, rfl⟩
        rw [hlt2.out] at ct hlast
        clear hn0
        by_cases hl : lt = t
        · have hg : Hid (grows R0 t (a + b) = false) := by show _ = _; unfold grows; simp [hlast.out, hl]
          have hne : (lt != t) = false := by simp [hl]
          clear hl
          go_wp2
          go_meet
          case rel => exact ⟨by rw [hg.out], rfl⟩
        · have hg : Hid (grows R0 t (a + b) = true) := by show _ = _; unfold grows; simp [hlast.out, hl, Hz.out]
          have hne : (lt != t) = true := by simp [hl]
          clear hl
          go_wp2
          go_meet
          case rel => exact ⟨by rw [hg.out], rfl⟩
  case rest =>
    obtain ⟨rfl, hwc⟩ := hcut
    subst hwc
    obtain ⟨gr, hgr⟩ : ∃ gr, Hid (grows R0 t (a + b) = gr) := ⟨_, rfl⟩
    rw [hgr.out]
    have hE1 : Hid (gr = true → E = R0 ++ [⟨hd, t⟩]) := fun h => by rw [← hE.out]; exact grows_yes (hgr.out.trans h)
    have hE2 : Hid (gr = false → E = R0) := fun h => by rw [← hE.out]; exact grows_no (hgr.out.trans h)
    have hpre : Hid (∀ i, i < n → nth E i = G i ∧ i < E.length) := by
      intro i hi
      have hi' : i < R0.length := by rw [HlR.out]; exact hi
      have e : nth R0 i = G i := by rw [← hR0.out]; exact gl_nth G hi
      cases hgg : gr
      · rw [hE2.out hgg]; exact ⟨e, hi'⟩
      · rw [hE1.out hgg, nth_left hi']; exact ⟨e, by simp; omega⟩
    have hEn : E.length ≤ n + 1 := by
      rw [← hE.out]
      have := addR_len R0 hd t (a + b)
      rw [HlR.out] at this
      exact this
    obtain ⟨N, hN⟩ : ∃ N, Hid (E.length = N) := ⟨_, rfl⟩
    rw [hN.out] at c30 c50 hRR3 hRR5 hEn
    have hN1 : Hid (gr = true → N = n + 1) := fun h => by rw [← hN.out, hE1.out h, List.length_append, HlR.out]; rfl
    have hN2 : Hid (gr = false → N = n) := fun h => by rw [← hN.out, hE2.out h, HlR.out]
    go_upto_if 78 with fail
    go_cut [15] (fun v wr => v = .int .i64 N ∧ wr = wc)
    case first =>
      clear c30 c31 c50 c51 hRR3 hRR5
      cases gr
      · have e := hN2.out rfl
        clear hN1 hN2 hE1 hE2
        go_wp2
        go_meet
        case rel => exact ⟨by rw [e], rfl⟩
      · have e := hN1.out rfl
        have He : Hid (N = n + 1) := e
        clear hN1 hN2 hE1 hE2 e
        go_wp2
        go_meet
        case rel => exact ⟨by rw [He.out]; go_num, rfl⟩
    case rest =>
      obtain ⟨rfl, hwc⟩ := hcut
      subst hwc
      generalize wc = w5 at *
      clear hgr hhd2 hR0 HlR hE
      go_wp2_with fail
      refine (head_any _ _ _ ⟨_, _, _, rfl⟩).mono ?_
      rintro e w6 ⟨rfl, hd6⟩
      have c60 := kcell hd6 c30
      have c61 := kcell hd6 c31
      have c62 := kcell hd6 c50
      have c63 := kcell hd6 c51
      have hr6 := hr5.kept hd6
      have hR63 := hRR3.kept hd6
      have hR65 := hRR5.kept hd6
      have hb6 := below_then hb8 hd6
      have hne2 : (hd2 != hd2) = false := by simp
      have hneN : ((N : Int) != (N : Int)) = false := by simp
      clear c30 c31 c50 c51 hr5 hRR3 hRR5 hb8 hd6
      go_wp2_with fail
      refine (head_any _ _ _ ⟨_, _, _, rfl⟩).mono ?_
      rintro e w7 ⟨rfl, hd7⟩
      have c70 := kcell hd7 c60
      have c71 := kcell hd7 c61
      have c72 := kcell hd7 c62
      have c73 := kcell hd7 c63
      have hr7 := hr6.kept hd7
      have hR73 := hR63.kept hd7
      have hR75 := hR65.kept hd7
      have hb7 := below_then hb6 hd7
      clear c60 c61 c62 c63 hr6 hR63 hR65 hb6 hd7
      go_wp2_with fail
      refine (runs_any _ _ _ ⟨_, _, _, rfl⟩).mono ?_
      rintro e w8 ⟨rfl, hd8⟩
      have c82 := kcell hd8 c72
      have c83 := kcell hd8 c73
      have hr8 := hr7.kept hd8
      have hR83 := hR73.kept hd8
      have hR85 := hR75.kept hd8
      have hb9 := below_then hb7 hd8
      clear c70 c71 c72 c73 hr7 hR73 hR75 hb7 hd8
      go_wp2_with fail
      refine (runs_any _ _ _ ⟨_, _, _, rfl⟩).mono ?_
      rintro e w9 ⟨rfl, hd9⟩
      have hr9 := hr8.kept hd9
      have hR93 := hR83.kept hd9
      have hR95 := hR85.kept hd9
      have hb10 := below_then hb9 hd9
      clear c82 c83 hr8 hR83 hR85 hb9 hd9
      go_wp2_with fail
      go_loopw [18] (fun i wr => ∃ q : Nat, q ≤ n ∧ i = .int .i64 q ∧ ∃ z, wr = w9.drewN z) (fun i _ => n - (intOf i).toNat)
      case atStart => exact ⟨0, Nat.zero_le _, rfl, 0, rfl⟩
      case round =>
        obtain ⟨q, hq, rfl, z, rfl⟩ := hrel
        by_cases hlt : q < n
        · obtain ⟨hG, hqN⟩ := hpre.out q hlt
          rw [hN.out] at hqN
          obtain ⟨b0, o0, rfl, k0, k1⟩ := hr9.at hlt
          obtain ⟨b3, o3, rfl, k2, k3⟩ := hR93.at hqN
          obtain ⟨b5, o5, rfl, k4, k5⟩ := hR95.at hqN
          rw [hG] at k2 k3 k4 k5
          obtain ⟨ff, hff⟩ : ∃ x, Hid ((G q).first = x) := ⟨_, rfl⟩
          obtain ⟨tt, htt⟩ : ∃ x, Hid ((G q).term = x) := ⟨_, rfl⟩
          rw [hff.out] at k0 k2 k4
          rw [htt.out] at k1 k3 k5
          have e1 : (ff != ff) = false := by simp
          have e2 : (tt != tt) = false := by simp
          clear hG hN1 hN2 hE1 hE2
          go_wp2
          go_quiet (fail)
          go_wp2
          go_quiet (fail)
          go_wp2
          go_roundw
          case rel => exact ⟨q + 1, by omega, by go_num, _, rfl⟩
          case measure => simp [intOf]; omega
        · have hb11 : Below w'.heap.size w' (w9.drewN z) := below_drewN hb10 z
          cases gr
          · clear hN1 hN2 hE1 hE2
            go_wp2
            go_ret
            exact ⟨rfl, hb11⟩
          · have eN := hN1.out rfl
            have eE := hE1.out rfl
            have hlR : R0.length = n := by have := hN.out; rw [eE, eN, List.length_append] at this; simpa using this
            have eG : nth E n = ⟨hd, t⟩ := by rw [eE, nth_right (by omega), hlR, Nat.sub_self]; rfl
            obtain ⟨b3, o3, rfl, k2, k3⟩ := hR93.at (i := n) (by omega)
            obtain ⟨b5, o5, rfl, k4, k5⟩ := hR95.at (i := n) (by omega)
            rw [eG] at k2 k3 k4 k5
            have k2 : w9.cell? ⟨b3, o3 + n * 2, none⟩ = some (.int .u64 hd) := k2
            have k3 : w9.cell? ⟨b3, o3 + n * 2 + 1, none⟩ = some (.int .u64 t) := k3
            have k4 : w9.cell? ⟨b5, o5 + n * 2, none⟩ = some (.int .u64 hd) := k4
            have k5 : w9.cell? ⟨b5, o5 + n * 2 + 1, none⟩ = some (.int .u64 t) := k5
            have e1 : (hd != hd) = false := by simp
            have e2 : (t != t) = false := by simp
            have hNn : n < N := by omega
            clear eN eE eG hN1 hN2 hE1 hE2
            go_wp2
            go_ret
            exact ⟨rfl, hb11⟩
end Go.Proofs.Qxb6617302a

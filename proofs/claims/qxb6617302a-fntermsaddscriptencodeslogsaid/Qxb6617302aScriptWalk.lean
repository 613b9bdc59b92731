/-
  THE WALK of 'FnTermsAddScriptEncodesLog': out of the contracts of its callees.
-/
import Derived.Test.Qxb6617302aRuns
import Derived.Deep.RegionHeld3
import Derived.Deep.DeepCutAuto
namespace Go.Proofs.Qxb6617302a
open Go.RowKit

set_option maxRecDepth 100000 in
set_option maxHeartbeats 2000000 in
theorem script_walk (a : Option Addr) (m c : Nat) (S : Nat → Sp) (w : World) (hm : m ≤ maxLen) (ha : SRow w a m S) (hS : Us S) :
   Calls Try.prog 5 #[.slice a m c] w fun e w' => e = .returned (.bool true) ∧ Below w.heap.size w w' := by
  by_cases hml : m ≤ 65536
  rotate_left
  · go_enter Try.func5, Try.ntmps5
    go_wp2_with fail
    refine (bytes15_any _ _ _ _ hm).mono ?_
    rintro e w' ⟨rfl | rfl, hw⟩
    all_goals
      subst hw
      go_wp2
      go_ret
      exact ⟨rfl, Below.refl _ _⟩
  go_enter Try.func5, Try.ntmps5
  go_wp2_with fail
  refine (bytes15_any _ _ _ _ hm).mono ?_
  rintro e w' ⟨rfl | rfl, hw⟩
  rotate_left
  · subst hw
    go_wp2
    go_ret
    exact ⟨rfl, Below.refl _ _⟩
  subst hw
  go_wp2_with fail
  refine (fit_any _ _ _ S _ hm ha hS).mono ?_
  rintro e w1 ⟨hr, hb1⟩
  rcases hr with rfl | ⟨rfl, hF⟩
  · go_wp2
    go_ret
    exact ⟨rfl, hb1⟩
  have ha1 := ha.kept hb1
  clear ha
  go_wp2_with fail
  go_loopw [4, 5] (fun t i wr => ∃ k : Nat, k ≤ m ∧ i = .int .i64 k ∧ t = .int .u64 (sumN S k) ∧ ∃ rv, TSt wr w1.heap.size w1.heap.size rv (rns S k) (sumN S k) ∧ Below w1.heap.size w1 wr) (fun _ i _ => m - (intOf i).toNat)
  case atStart =>
    refine ⟨0, Nat.zero_le _, rfl, rfl, .slice none 0 0, ⟨heap_alloc_new _ _, World.ownsRow_nil _ _ _ _⟩, (Below.refl _ _).alloc (Nat.le_refl _) _⟩
  case round =>
    obtain ⟨k, hk, rfl, rfl, rv, hT, hb⟩ := hrel
    have hsz := hb.size
    have s0 := sumN_nonneg hS k
    have s1 := hF.sum k hk
    by_cases hlt : k < m
    · obtain ⟨b1, o1, rfl, g0', g1'⟩ := ha1.at hlt
      have g0 := kcell hb g0'
      have g1 := kcell hb g1'
      obtain ⟨u0, u1, u2, u3⟩ := hS k
      have s2 := (hF k hlt).1
      have hrl := rns_le S k
      have HT : Hid (TSt wr w1.heap.size w1.heap.size rv (rns S k) (sumN S k)) := hT
      have hk0 : (0 : Int) ≤ (k : Int) := Int.natCast_nonneg _
      have hk1 : (k : Int) < (m : Int) := by omega
      rw [sumN] at s2
      clear hT
      go_wp2_with fail
      go_region_held3 (fun w' => w'.cell? ⟨b1, o1 + k * 2, none⟩ = some (.int .u64 (S k).term) ∧ w'.cell? ⟨b1, o1 + k * 2 + 1, none⟩ = some (.int .u64 (S k).n))
        (first
          | go_keep
          | (go_split_ands
             refine ⟨?_, ?_⟩
             · exact kcell hb2 g0'
             · exact kcell hb2 g1'))
        ((go_at_call 17; refine (zzadd_any w1.heap.size w1.heap.size rv (rns S k) (sumN S k) (S k).term (S k).n wr.drew ⟨HT.out.box, HT.out.own⟩ hsz (by omega) s0 s1 u2).mono ?_; rintro e w2 ⟨rfl, rv2, hT2, hmv2, hk2⟩; have hb2 : Below w1.heap.size w1 w2 := hb.trans (HT.out.below ⟨hk2.os, hk2.tape, hk2.output, hk2.size, hk2.block⟩ (Nat.le_refl _) (Nat.le_refl _) hsz)))
      have hT3 : TSt w2 w1.heap.size w1.heap.size rv2 (rns S (k + 1)) (sumN S (k + 1)) := by
        have e : sumN S (k + 1) = addH (sumN S k) (S k).n := by rw [add_head s0 u2 s2, sumN]
        rw [e]; exact hT2
      have hsum : Hid (sumN S (k + 1) = sumN S k + (S k).n) := rfl
      have HT3 : Hid (TSt w2 w1.heap.size w1.heap.size rv2 (rns S (k + 1)) (sumN S (k + 1))) := hT3
      have p0 := kcell hb2 g0'
      have p1 := kcell hb2 g1'
      clear hT3 hT2 hmv2 hk2 HT g0 g1 g0' g1'
      go_wp2
      go_roundw
      case rel => exact ⟨k + 1, by omega, by go_num, val_int hsum.out.symm, rv2, HT3.out, hb2⟩
      case measure => simp [intOf]; omega
    · obtain rfl : k = m := by omega
      obtain ⟨ao, cp, rfl, hRR, hao⟩ := RRow.of_owns hT.own
      obtain ⟨c0, c1, _, _, _⟩ := hT.cells
      have hN := rns_le S k
      have hRise := rns_rise hS hF k (Nat.le_refl _)
      have hemp := rns_empty hS k
      have hz0 := rns_zeroth hS k
      have hfst := rns_firsts hS k
      have hsteps := fun q (h : q < k) (hz : (S q).n ≠ 0) => step_run hS (m := k) h hz
      obtain ⟨R, hR⟩ : ∃ R, Hid (rns S k = R) := ⟨_, rfl⟩
      rw [hR.out] at hRR hN hRise hemp hz0 hfst hsteps c0 hao
      obtain ⟨tot, htot⟩ : ∃ t, Hid (sumN S k = t) := ⟨_, rfl⟩
      rw [htot.out] at s0 s1 hemp hfst c1
      rw [htot.out]
      have HE : Hid (R = [] ↔ tot = 0) := hemp
      have HZ : Hid (R ≠ [] → (nth R 0).first = 0) := hz0
      have HX : Hid (∀ r ∈ R, 0 ≤ r.first ∧ r.first < tot) := hfst
      have HS : Hid (∀ q, q < k → (S q).n ≠ 0 → runOf S q ≤ runOf S (q + 1) ∧ runOf S (q + 1) < R.length ∧ (∀ q', q' ≤ runOf S (q + 1) → (nth R q').first ≤ sumN S q) ∧ (runOf S (q + 1) + 1 < R.length → sumN S q + (S q).n ≤ (nth R (runOf S (q + 1) + 1)).first) ∧ (nth R (runOf S (q + 1))).term = (S q).term) := hsteps
      have HRise : Hid (Rise R) := hRise
      have HAO : Hid (R ≠ [] → ∃ g, ao = some ⟨g, 0, none⟩) := hao
      have hb2 := below_then hb1 hb
      have ha2 := ha1.kept hb
      clear hT hemp hz0 hfst hsteps hRise hao hb1 hb ha1 hlt hsz
      go_wp2_with fail
      refine (runs_any _ _ _ ⟨_, _, _, rfl⟩).mono ?_
      rintro e w3 ⟨rfl, hb3⟩
      have c0 := kcell hb3 c0
      have c1 := kcell hb3 c1
      have hRR3 := hRR.kept hb3
      have ha3 := ha2.kept hb3
      have hb4 := below_then hb2 hb3
      clear hRR ha2 hb2
      go_wp2_with fail
      refine (head_any _ _ _ ⟨_, _, _, rfl⟩).mono ?_
      rintro e w4 ⟨rfl, hb5⟩
      have hRR4 := hRR3.kept hb5
      have ha4 := ha3.kept hb5
      have hb6 := below_then hb4 hb5
      clear hRR3 ha3 hb4 hb3 hb5 c0 c1
      by_cases hR0 : R = []
      · have ht0 : tot = 0 := HE.out.1 hR0
        subst hR0 ht0
        go_wp2
        go_ret
        exact ⟨rfl, hb6⟩
      · have hpos : 0 < R.length := List.length_pos_iff.2 hR0
        have ht0 : (tot == 0) = false := by simp; exact fun h => hR0 (HE.out.2 h)
        have hl0 : ((R.length : Int) == 0) = false := by simp; omega
        obtain ⟨g, rfl⟩ := HAO.out hR0
        have hcell : Hid (∀ i, i < R.length → w4.cell? ⟨g, i * 2, none⟩ = some (.int .u64 (nth R i).first) ∧ w4.cell? ⟨g, i * 2 + 1, none⟩ = some (.int .u64 (nth R i).term)) := by
          rcases hRR4 with h | ⟨b, off, h, hc⟩
          · omega
          · intro i hi
            obtain ⟨rfl, rfl⟩ : g = b ∧ 0 = off := by simpa using h
            have := hc i hi
            rwa [Nat.zero_add] at this
        have hc0 : w4.cell? ⟨g, 0, none⟩ = some (.int .u64 0) := by
          have := (hcell.out 0 hpos).1
          rw [HZ.out hR0] at this
          simpa using this
        have hne : ((0 : Int) != 0) = false := by simp
        have hRne : Hid (R ≠ []) := hR0
        clear hRR4 hR0
        go_wp2_with fail
        go_loopw [8] (fun i wr => ∃ q : Nat, 1 ≤ q ∧ q ≤ R.length ∧ i = .int .i64 q ∧ ∃ z, wr = w4.drewN z) (fun i _ => R.length - (intOf i).toNat)
        case atStart => exact ⟨1, Nat.le_refl _, hpos, rfl, 0, rfl⟩
        case round =>
          obtain ⟨q, hq1, hq, rfl, z, rfl⟩ := hrel
          by_cases hlt : q < R.length
          · obtain ⟨F1, T1, F0, T0, k1, k2, k3, k4, hd1, hd2⟩ : ∃ F1 T1 F0 T0 : Int, w4.cell? ⟨g, q * 2, none⟩ = some (.int .u64 F1) ∧ w4.cell? ⟨g, q * 2 + 1, none⟩ = some (.int .u64 T1) ∧ w4.cell? ⟨g, (q - 1) * 2, none⟩ = some (.int .u64 F0) ∧ w4.cell? ⟨g, (q - 1) * 2 + 1, none⟩ = some (.int .u64 T0) ∧ decide (F1 ≤ F0) = false ∧ decide (T1 ≤ T0) = false := by
              have h1 := hcell.out q hlt
              have h2 := hcell.out (q - 1) (by omega)
              have h3 := HRise.out (q - 1) (by omega)
              rw [show q - 1 + 1 = q by omega] at h3
              exact ⟨_, _, _, _, h1.1, h1.2, h2.1, h2.2, by simp; omega, by simp; omega⟩
            go_wp2
            go_quiet (fail)
            go_wp2
            go_roundw
            case rel => exact ⟨q + 1, by omega, by omega, by go_num, _, rfl⟩
            case measure => simp [intOf]; omega
          · obtain rfl : q = R.length := by omega
            obtain ⟨Fl, kl, hFl⟩ : ∃ Fl : Int, (w4.drewN z).cell? ⟨g, (R.length - 1) * 2, none⟩ = some (.int .u64 Fl) ∧ Fl < tot :=
              ⟨_, (hcell.out (R.length - 1) (by omega)).1, (HX.out _ (nth_mem (by omega))).2⟩
            have hb7 : Below w'.heap.size w' (w4.drewN z) := below_drewN hb6 z
            have ha5 : SRow (w4.drewN z) a k S := ha4.kept (below_drewN (Below.refl _ _) z)
            have hcell5 : Hid (∀ i, i < R.length → (w4.drewN z).cell? ⟨g, i * 2, none⟩ = some (.int .u64 (nth R i).first) ∧ (w4.drewN z).cell? ⟨g, i * 2 + 1, none⟩ = some (.int .u64 (nth R i).term)) := hcell.out
            clear hcell hb6 ha4 hc0 HRise
            generalize w4.drewN z = w5 at *
            go_wp2_with fail
            clear kl hFl ht0 hl0 hne HE HZ HX hRne HAO c0 c1
            go_loopw [9, 10, 11] (fun j p i wr => ∃ q : Nat, q ≤ k ∧ i = .int .i64 q ∧ j = .int .i64 (runOf S q) ∧ p = .int .u64 (sumN S q) ∧ Below w5.heap.size w5 wr) (fun _ _ i _ => k - (intOf i).toNat)
            case atStart => exact ⟨0, Nat.zero_le _, rfl, rfl, rfl, Below.refl _ _⟩
            case round =>
              obtain ⟨q, hq, rfl, rfl, rfl, hb⟩ := hrel
              have hsz := hb.size
              by_cases hlt : q < k
              · obtain ⟨b1, o1, rfl, g0, g1⟩ := ha5.at hlt
                have g0 := kcell hb g0
                have g1 := kcell hb g1
                obtain ⟨u0, u1, u2, u3⟩ := hS q
                have v0 := sumN_nonneg hS q
                have v1 := hF.sum q hq
                have v2 := (hF q hlt).1
                rw [sumN] at v2
                have hsum : Hid (sumN S (q + 1) = sumN S q + (S q).n) := rfl
                by_cases hz : (S q).n = 0
                · have hzz : ((S q).n == 0) = true := by simp [hz]
                  have Hz : Hid ((S q).n = 0) := hz
                  have hrz : Hid (runOf S (q + 1) = runOf S q) := runOf_zero hz
                  clear hz
                  go_wp2
                  go_roundw
                  case rel => exact ⟨q + 1, by omega, by go_num, val_int (by rw [hrz.out]), val_int (by rw [hsum.out, Hz.out]; omega), hb.alloc hsz _⟩
                  case measure => simp [intOf]; omega
                · have hzz : ((S q).n == 0) = false := by simp [hz]
                  obtain ⟨r1, r2, r3, r4, r5⟩ := HS.out q hlt hz
                  have R3 : Hid (∀ q', q' ≤ runOf S (q + 1) → (nth R q').first ≤ sumN S q) := r3
                  have R4 : Hid (runOf S (q + 1) + 1 < R.length → sumN S q + (S q).n ≤ (nth R (runOf S (q + 1) + 1)).first) := r4
                  have R5 : Hid ((nth R (runOf S (q + 1))).term = (S q).term) := r5
                  have hn1 : 1 ≤ (S q).n := by omega
                  have hc6 : Hid (∀ i, i < R.length → wr.cell? ⟨g, i * 2, none⟩ = some (.int .u64 (nth R i).first) ∧ wr.cell? ⟨g, i * 2 + 1, none⟩ = some (.int .u64 (nth R i).term)) := fun i hi => ⟨kcell hb (hcell5.out i hi).1, kcell hb (hcell5.out i hi).2⟩
                  have hgl : g < wr.heap.size := World.block_lt_of_cell? wr ⟨g, 0 * 2, none⟩ (hc6.out 0 hpos).1
                  have HJ : Hid (runOf S (q + 1) = runOf S (q + 1)) := rfl
                  obtain ⟨J, hJ⟩ : ∃ J, Hid (runOf S (q + 1) = J) := ⟨_, rfl⟩
                  obtain ⟨J0, hJ0⟩ : ∃ J, Hid (runOf S q = J) := ⟨_, rfl⟩
                  rw [hJ.out] at r1 r2 R3 R4 R5
                  rw [hJ0.out] at r1
                  rw [hJ0.out]
                  obtain ⟨P, hP⟩ : ∃ P, Hid (sumN S q = P) := ⟨_, rfl⟩
                  rw [hP.out] at v0 v1 v2 R3 R4
                  rw [hP.out]
                  clear hz r3 r4 r5 HJ
                  go_wp2_with fail
                  go_loop [9] (fun j => ∃ p : Nat, p ≤ J ∧ j = .int .i64 p) (fun j => J - (intOf j).toNat)
                  case atStart => exact ⟨J0, r1, rfl⟩
                  case round =>
                    obtain ⟨p, hp, rfl⟩ := hrel
                    by_cases hpJ : p < J
                    · obtain ⟨f, cf, hf⟩ : ∃ f : Int, wr.cell? ⟨g, (p + 1) * 2, none⟩ = some (.int .u64 f) ∧ f ≤ P := ⟨_, (hc6.out (p + 1) (by omega)).1, R3.out (p + 1) (by omega)⟩
                      go_wp2
                      go_round
                      case rel => exact ⟨p + 1, by omega, by go_num⟩
                      case measure => simp [intOf]; omega
                    · obtain rfl : p = J := by omega
                      have ct : wr.cell? ⟨g, p * 2 + 1, none⟩ = some (.int .u64 (S q).term) := by rw [← R5.out]; exact (hc6.out p r2).2
                      have hnn : ((S q).term != (S q).term) = false := by simp
                      by_cases hnext : p + 1 < R.length
                      · obtain ⟨f, cf, hf⟩ : ∃ f : Int, wr.cell? ⟨g, (p + 1) * 2, none⟩ = some (.int .u64 f) ∧ P + (S q).n ≤ f := ⟨_, (hc6.out (p + 1) hnext).1, R4.out hnext⟩
                        have hfp : ¬ f ≤ P := by omega
                        have hfe : ¬ f ≤ P + (S q).n - 1 := by omega
                        go_wp2
                        go_quiet (fail)
                        go_wp2
                        go_loop [9] (fun j => j = .int .i64 p) (fun _ => 0)
                        case atStart => rfl
                        case round =>
                          subst hrel
                          go_wp2
                          go_quiet (fail)
                          go_wp2
                          go_roundw
                          case rel => exact ⟨q + 1, by omega, by go_num, val_int (by rw [hJ.out]), val_int (by rw [hsum.out, hP.out]), by repeat (first | exact hb.alloc hsz _ | apply below_drewN)⟩
                          case measure => simp [intOf]; omega
                      · go_wp2
                        go_quiet (fail)
                        go_wp2
                        go_loop [9] (fun j => j = .int .i64 p) (fun _ => 0)
                        case atStart => rfl
                        case round =>
                          subst hrel
                          go_wp2
                          go_quiet (fail)
                          go_wp2
                          go_roundw
                          case rel => exact ⟨q + 1, by omega, by go_num, val_int (by rw [hJ.out]), val_int (by rw [hsum.out, hP.out]), by repeat (first | exact hb.alloc hsz _ | apply below_drewN)⟩
                          case measure => simp [intOf]; omega
              · go_wp2
                go_ret
                exact ⟨rfl, below_then hb7 hb⟩
end Go.Proofs.Qxb6617302a

/-
  THE WALK of 'FnVotersLearnerFlipSplitsIDs': out of the contracts of its callees.
-/
import Derived.Test.Qxb6617302aFlipPlain
import Derived.Test.Qxb6617302aGuards
import Derived.Test.Qxb6617302aMembership
namespace Go.Proofs.Qxb6617302a
open Go.RowKit

theorem Filled.alloc {w : World} {base e g n : Nat} {M : Nat → Mb} {k : Nat} (h : Filled w base e g n M k) (o : Obj) : Filled (w.alloc o) base e g n M k := by
  obtain ⟨xs, ho, hx⟩ := h
  exact ⟨xs, ho.alloc o, hx⟩

set_option maxRecDepth 4000 in
set_option maxHeartbeats 1000000 in
theorem flip_walk (x y : Int) (a b : Option Addr) (n c m d : Nat) (M : Nat → Mb) (U : Nat → Int) (w : World) (hn : n ≤ maxLen) (hm : m ≤ maxLen) (ha : MRow w a n M) (hp : URow w b m U) (han : NilOk a n) (hbn : NilOk b m) :
   Calls Try.prog 4 #[.int .u64 x, .int .u64 y, .slice a n c, .slice b m d] w fun e w' => e = .returned (.bool true) ∧ Below w.heap.size w w' := by
  obtain ⟨i26, hi26, hy0, hy1, hy2⟩ := info_parts info26
  go_enter Try.func4, Try.ntmps4
  go_wp2_with fail
  refine (bytes14_any _ _ _ _ _ _ _ _ M _ hn hm ha).mono ?_
  rintro e w' ⟨rfl | rfl, hw⟩
  · subst hw
    go_wp2_with fail
    refine (big_any _ _ _ _ _ _ M ⟨0, ByteArray.empty, 0, false⟩ _ hn hm (Nat.zero_le _) ha).mono ?_
    rintro e w1 ⟨hr, hb1⟩
    rcases hr with rfl | ⟨rfl, hn1, hm1⟩
    · go_wp2
      go_ret
      exact ⟨rfl, hb1⟩
    · have ha1 := ha.kept hb1
      have hp1 := hp.kept hb1
      clear ha hp
      go_wp2_with fail
      go_loopw [9] (fun i wr => ∃ k : Nat, 1 ≤ k ∧ (k ≤ n ∨ k = 1) ∧ i = .int .i64 k ∧ Rising M k ∧ ∃ q, wr = w1.drewN q) (fun i _ => n - (intOf i).toNat)
      case atStart => exact ⟨1, Nat.le_refl _, .inr rfl, rfl, fun i h1 h2 => by omega, 0, rfl⟩
      case round =>
        obtain ⟨k, hk1, hk, rfl, hri, q, rfl⟩ := hrel
        by_cases hlt : k < n
        · rcases ha1 with h0 | ⟨b1, o1, rfl, hc1⟩
          · omega
          have g0 := (hc1 (k - 1) (by omega)).1
          have g1 := (hc1 k hlt).1
          clear hc1
          go_wp2
          go_quiet (fail)
          go_wp2
          · go_ret
            exact ⟨rfl, below_drewN (below_drewN hb1 _) _⟩
          · have hstep : (M (k - 1)).id < (M k).id := by assumption
            go_roundw
            case rel =>
              refine ⟨k + 1, by omega, .inl (by omega), by go_num, fun i h1 h2 => ?_, _, rfl⟩
              by_cases he : i = k
              · subst he; omega
              · exact hri i h1 (by omega)
            case measure => simp [intOf]; omega
        · have hR : Rising M n := fun i h1 h2 => hri i h1 (by omega)
          have hb2 : Below w'.heap.size w' (w1.drewN q) := below_drewN hb1 _
          have ha2 : MRow (w1.drewN q) a n M := ha1.kept (below_drewN (Below.refl _ _) _)
          have hp2 : URow (w1.drewN q) b m U := hp1.kept (below_drewN (Below.refl _ _) _)
          clear hri hk ha1 hp1 hb1
          generalize w1.drewN q = w2 at *
          go_wp2_with (at_make; refine wpList_make_full _ rfl _ _ 23 rfl w2.heap.size 26 i26 _ 4 Try.underlying23 hi26 hy0 hy1 .i64 .i64 _ _ n rfl rfl rfl rfl (by rw [hy2]; omega) (by unfold maxLen; omega) (Nat.le_refl _) ?_; intro wm hown hgr)
          have hbm : Below w2.heap.size w2 wm := (Below.refl _ _).grown hgr (Nat.le_refl _) (fun _ h => by cases h)
          go_loopw [11] (fun i wr => ∃ k : Nat, k ≤ n ∧ i = .int .i64 k ∧ Filled wr w2.heap.size 26 w2.heap.size n (flipM M) k ∧ Below w2.heap.size w2 wr ∧ w2.heap.size < wr.heap.size) (fun i _ => n - (intOf i).toNat)
          case atStart => exact ⟨0, Nat.zero_le _, rfl, Filled.start hown, hbm, by have := (hown.lt _ rfl).2; exact this⟩
          case round =>
            clear hown hgr hbm
            obtain ⟨k2, hk2, rfl, hf, hb3, hs3⟩ := hrel
            by_cases hlt2 : k2 < n
            · rcases ha2 with h0 | ⟨b1, o1, rfl, hc1⟩
              · omega
              obtain ⟨g0, g1, g2, g3⟩ := hc1 k2 hlt2
              clear hc1
              have g0 := kcell hb3 g0
              have g1 := kcell hb3 g1
              have g2 := kcell hb3 g2
              have g3 := kcell hb3 g3
              obtain ⟨⟨q0, hq0⟩, f0⟩ := hf.old (j := k2 * 4) (by omega)
              obtain ⟨⟨q1, hq1⟩, f1⟩ := hf.old (j := k2 * 4 + 1) (by omega)
              obtain ⟨⟨q2, hq2⟩, f2⟩ := hf.old (j := k2 * 4 + 2) (by omega)
              obtain ⟨⟨q3, hq3⟩, f3⟩ := hf.old (j := k2 * 4 + 3) (by omega)
              have hst := hf.step hlt2
              clear hf
              go_wp2
              go_roundw
              case rel =>
                refine ⟨k2 + 1, by omega, by go_num, hst.alloc _, ?_, by simp; omega⟩
                exact ((((hb3.setCell (Nat.le_refl _) _).setCell (Nat.le_refl _) _).setCell (Nat.le_refl _) _).setCell (Nat.le_refl _) _).alloc (by simp; omega) _
              case measure => simp [intOf]; omega
            · have hF : MRow wr (some ⟨w2.heap.size, 0, none⟩) n (flipM M) := by
                have e : k2 = n := by omega
                rw [e] at hf
                exact hf.row
              have ha3 := ha2.kept hb3
              have hp3 := hp2.kept hb3
              have hb4 := below_then hb2 hb3
              clear ha2 hp2 hb2 hb3 hf
              go_wp2_with fail
              refine (membership_any _ _ _ _ _ _ _ _ M U _ (by omega) (by omega) ha3 hp3 han hbn).mono ?_
              rintro e w4 ⟨a4, c4, p4, m4, d4, rfl, hM4, hb5⟩
              have ha4 := ha3.kept hb5
              have hp4 := hp3.kept hb5
              have hF4 := hF.kept hb5
              have hb6 := below_then hb4 hb5
              clear ha3 hp3 hF hb4 hb5
              go_wp2_with fail
              refine (voters_any _ _ _ _ _ _ _ _ M _ (by omega) hM4).mono ?_
              rintro e w5 ⟨v5, rfl, hown5, hb7⟩
              obtain ⟨ao5, cap5, rfl, hl5, hm5, hU5⟩ := URow.of_owns hown5
              have ha5 := ha4.kept hb7
              have hp5 := hp4.kept hb7
              have hF5 := hF4.kept hb7
              have hb8 := below_then hb6 hb7
              clear ha4 hp4 hF4 hb6 hb7 hown5 hl5 hM4
              go_wp2_with fail
              refine (membership_any _ _ _ _ _ _ _ _ (flipM M) U _ (by omega) (by omega) hF5 hp5 (fun h => by cases h) hbn).mono ?_
              rintro e w6 ⟨a6, c6, p6, m6, d6, rfl, hM6, hb9⟩
              have ha6 := ha5.kept hb9
              have hU6 := hU5.kept hb9
              have hb10 := below_then hb8 hb9
              clear ha5 hp5 hF5 hb8 hb9 hU5
              go_wp2_with fail
              refine (voters_any _ _ _ _ _ _ _ _ (flipM M) _ (by omega) hM6).mono ?_
              rintro e w7 ⟨v7, rfl, hown7, hb11⟩
              obtain ⟨ao7, cap7, rfl, hl7, hm7, hV7⟩ := URow.of_owns hown7
              have ha7 := ha6.kept hb11
              have hU7 := hU6.kept hb11
              have hb12 := below_then hb10 hb11
              clear ha6 hU6 hb10 hb11 hown7 hl7 hM6
              go_wp2_with fail
              unfold maxLen at hm5 hm7
              go_loop [15, 16, 17] (fun iv il i => ∃ k : Nat, k ≤ n ∧ i = .int .i64 k ∧ iv = .int .i64 (vot M k).length ∧ il = .int .i64 (vot (flipM M) k).length) (fun _ _ i => n - (intOf i).toNat)
              case atStart => exact ⟨0, Nat.zero_le _, rfl, rfl, rfl⟩
              case round =>
                obtain ⟨k3, hk3, rfl, rfl, rfl⟩ := hrel
                by_cases hlt3 : k3 < n
                · rcases ha7 with h0 | ⟨b1, o1, rfl, hc1⟩
                  · omega
                  obtain ⟨g0, g1, g2, g3⟩ := hc1 k3 hlt3
                  clear hc1
                  cases hL : (M k3).lrn
                  · obtain ⟨h1, h2, h3⟩ := vot_hit hlt3 hL
                    have h4 : Hid ((vot (flipM M) (k3 + 1)).length = (vot (flipM M) k3).length) := vot_miss_len (by simp [flipM, hL])
                    have H3 : Hid ((vot M (k3 + 1)).length = (vot M k3).length + 1) := h3
                    rcases hU7 with h0 | ⟨b5, o5, rfl, hc5⟩
                    · omega
                    have gv : w7.cell? ⟨b5, o5 + (vot M k3).length, none⟩ = some (.int .u64 (M k3).id) := by rw [← h2]; exact hc5 _ h1
                    rw [hL] at g3
                    clear hc5 h2 h3 hV7
                    go_wp2
                    go_round
                    case rel => exact ⟨k3 + 1, by omega, by go_num, val_int (by rw [H3.out]; omega), val_int (by rw [h4.out])⟩
                    case measure => simp [intOf]; omega
                  · obtain ⟨h1, h2, h3⟩ := vot_hit (M := flipM M) hlt3 (by simp [flipM, hL])
                    have h4 : Hid ((vot M (k3 + 1)).length = (vot M k3).length) := vot_miss_len hL
                    have H3 : Hid ((vot (flipM M) (k3 + 1)).length = (vot (flipM M) k3).length + 1) := h3
                    rcases hV7 with h0 | ⟨b5, o5, rfl, hc5⟩
                    · omega
                    have gv : w7.cell? ⟨b5, o5 + (vot (flipM M) k3).length, none⟩ = some (.int .u64 (M k3).id) := by
                      have e : (flipM M k3).id = (M k3).id := rfl
                      rw [← e, ← h2]; exact hc5 _ h1
                    rw [hL] at g3
                    clear hc5 h2 h3
                    by_cases hv : (vot M k3).length < (vot M n).length
                    · have hne := vot_miss hR hlt3 hL hv
                      rcases hU7 with h0 | ⟨b6, o6, rfl, hc6⟩
                      · omega
                      obtain ⟨x0, gx, hx0⟩ : ∃ x0, w7.cell? ⟨b6, o6 + (vot M k3).length, none⟩ = some (.int .u64 x0) ∧ (x0 == (M k3).id) = false := ⟨_, hc6 _ hv, by simpa using hne⟩
                      clear hc6 hne
                      go_wp2
                      go_round
                      case rel => exact ⟨k3 + 1, by omega, by go_num, val_int (by rw [h4.out]), val_int (by rw [H3.out]; omega)⟩
                      case measure => simp [intOf]; omega
                    · clear hU7
                      go_wp2
                      go_round
                      case rel => exact ⟨k3 + 1, by omega, by go_num, val_int (by rw [h4.out]), val_int (by rw [H3.out]; omega)⟩
                      case measure => simp [intOf]; omega
                · have hkn : k3 = n := by omega
                  subst hkn
                  go_wp2
                  go_ret
                  exact ⟨rfl, hb12⟩
  · go_wp2
    go_ret
    exact ⟨rfl, by subst hw; exact Below.refl _ _⟩
end Go.Proofs.Qxb6617302a

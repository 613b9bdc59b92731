/-
  THE WALK of 'FnTermsPrefixOfBuiltLogIsBuiltPrefix': out of the contracts of its callees.
-/
import Derived.Test.Qxb6617302aBuiltPlain
import Derived.Deep.RegionWith
import Derived.Deep.DrawnRows
import Derived.Deep.DeepCutAuto
namespace Go.Proofs.Qxb6617302a
open Go.RowKit
attribute [local go_sem ↓] Go.wp_at_zero Go.wp_at_succ

theorem TSt.cross {w : World} {base bt base' bt' : Nat} {rv rv' : Value} {R R' : List Rn} {hd hd' : Int} (h : TSt w base bt rv R hd) (h' : TSt w base' bt' rv' R' hd') : rv.ownBlock ≠ some bt' := by
  intro e
  rcases h.own.2 with ⟨hv, _⟩ | ⟨g, cap, cur, hv, _, hg, _⟩
  · rw [hv] at e; simp [Value.ownBlock] at e
  · rw [hv] at e
    simp [Value.ownBlock] at e
    rw [e, h'.box] at hg
    simp at hg

/-- Two Terms side by side, their runs in different rows. -/
structure Two (w : World) (B bf bc : Nat) (rvF rvC : Value) (RF RC : List Rn) (hF hC : Int) : Prop where
  f : TSt w B bf rvF RF hF
  c : TSt w B bc rvC RC hC
  ne : ∀ g, rvF.ownBlock = some g → rvC.ownBlock ≠ some g

theorem Two.kept {w w' : World} {B bf bc : Nat} {rvF rvC : Value} {RF RC : List Rn} {hF hC : Int} (h : Two w B bf bc rvF rvC RF RC hF hC) (hb : Below w.heap.size w w') : Two w' B bf bc rvF rvC RF RC hF hC := ⟨h.f.kept hb, h.c.kept hb, h.ne⟩

theorem Two.addF {w w' : World} {B bf bc : Nat} {rvF rvC rv' : Value} {RF RC R' : List Rn} {hF hC h' : Int} (h : Two w B bf bc rvF rvC RF RC hF hC) (hn : bf ≠ bc) (hT : TSt w' B bf rv' R' h') (hm : Moved w rvF rv') (hk : KeptBut w w' bf rvF.ownBlock) : Two w' B bf bc rv' rvC R' RC h' hC := by
  refine ⟨hT, h.c.other hk (Ne.symm hn) (fun e => h.f.cross h.c e.symm) (fun g hg => ⟨fun e => h.c.cross h.f (by rw [hg, e]), fun e => h.ne g e.symm hg⟩), fun g hg hc => ?_⟩
  rcases hm with e | ⟨g', e, hge⟩
  · exact h.ne g (by rw [← e]; exact hg) hc
  · rw [hg] at e
    injection e with e
    have := h.c.lt.2 g hc
    omega

theorem Two.addC {w w' : World} {B bf bc : Nat} {rvF rvC rv' : Value} {RF RC R' : List Rn} {hF hC h' : Int} (h : Two w B bf bc rvF rvC RF RC hF hC) (hn : bf ≠ bc) (hT : TSt w' B bc rv' R' h') (hm : Moved w rvC rv') (hk : KeptBut w w' bc rvC.ownBlock) : Two w' B bf bc rvF rv' RF R' hF h' := by
  refine ⟨h.f.other hk hn (fun e => h.c.cross h.f e.symm) (fun g hg => ⟨fun e => h.f.cross h.c (by rw [hg, e]), fun e => h.ne g hg e.symm⟩), hT, fun g hg hc => ?_⟩
  rcases hm with e | ⟨g', e, hge⟩
  · exact h.ne g hg (by rw [← e]; exact hc)
  · rw [hc] at e
    injection e with e
    have := h.f.lt.2 g hg
    omega

theorem KeptBut.cell {w w' : World} {bt : Nat} {row : Option Nat} (h : KeptBut w w' bt row) {b o : Nat} {v : Value} (hc : w.cell? ⟨b, o, none⟩ = some v) (h1 : b ≠ bt) (h2 : some b ≠ row) : w'.cell? ⟨b, o, none⟩ = some v := by
  rw [World.cell?_of_block (w := w) (h.block b (World.block_lt_of_cell? w ⟨b, o, none⟩ hc) h1 h2)]
  exact hc

theorem own_R {w : World} {base : Nat} {rv : Value} {R : List Rn} (h : w.ownsRow base 48 2 rv R.length (rcells R)) :
    ∃ ao cap, rv = .slice ao R.length cap ∧ R.length ≤ cap ∧ RRow w ao R.length (nth R) ∧ NilOk ao R.length := by
  obtain ⟨ao, cap, hv, hR, _⟩ := RRow.of_owns h
  refine ⟨ao, cap, hv, ?_, hR, fun e => ?_⟩
  · rcases h.2 with ⟨h1, h0⟩ | ⟨g, c', cur, h1, _, _, hle, _⟩
    · omega
    · rw [hv] at h1; injection h1 with _ _ h3; omega
  · rcases h.2 with ⟨h1, h0⟩ | ⟨g, c', cur, h1, _⟩
    · exact h0
    · rw [hv, e] at h1; cases h1

set_option maxRecDepth 100000 in
set_option maxHeartbeats 2000000 in
theorem built_walk (a : Option Addr) (m c : Nat) (h : Int) (S : Nat → Sp) (w : World) (hm : m ≤ maxLen) (ha : SRow w a m S) (hS : Us S) (hh0 : 0 ≤ h) (hh1 : h ≤ 18446744073709551615) :
   Calls Try.prog 7 #[.slice a m c, .int .u64 h] w fun e w' => e = .returned (.bool true) ∧ Below w.heap.size w w' := by
  by_cases hml : m ≤ 65536
  rotate_left
  · go_enter Try.func7, Try.ntmps7
    go_wp2_with fail
    refine (bytes22_any _ _ _ _ _ hm).mono ?_
    rintro e w' ⟨rfl | rfl, hw⟩
    all_goals
      subst hw
      go_wp2
      go_ret
      exact ⟨rfl, Below.refl _ _⟩
  go_enter Try.func7, Try.ntmps7
  go_wp2_with fail
  refine (bytes22_any _ _ _ _ _ hm).mono ?_
  rintro e w' ⟨rfl | rfl, hw⟩
  rotate_left
  · subst hw
    go_wp2
    go_ret
    exact ⟨rfl, Below.refl _ _⟩
  subst hw
  go_wp2_with fail
  refine (fit_any _ _ _ S _ hm ha hS).mono ?_
  rintro e w1 ⟨hr, hb1⟩
  rcases hr with rfl | ⟨rfl, hF⟩
  · go_wp2
    go_ret
    exact ⟨rfl, hb1⟩
  have ha1 := ha.kept hb1
  clear ha
  go_wp2_with fail
  go_loopw [7, 8] (fun t i wr => ∃ k : Nat, k ≤ m ∧ i = .int .i64 k ∧ t = .int .u64 (sumN S k) ∧ ∃ rvF rvC, Two wr w1.heap.size w1.heap.size (w1.heap.size + 1) rvF rvC (rns S k) (rns (cutS S h) k) (sumN S k) (sumN (cutS S h) k) ∧ Below w1.heap.size w1 wr) (fun _ i _ => m - (intOf i).toNat)
  case atStart =>
    refine ⟨0, Nat.zero_le _, rfl, rfl, .slice none 0 0, .slice none 0 0, ⟨⟨?_, World.ownsRow_nil _ _ _ _⟩, ⟨?_, World.ownsRow_nil _ _ _ _⟩, fun g hg => by simp [Value.ownBlock] at hg⟩, ((Below.refl _ _).alloc (Nat.le_refl _) _).alloc (by simp) _⟩
    · show ((w1.heap.push _).push _)[w1.heap.size]? = _
      rw [Array.getElem?_push, if_neg (by simp), Array.getElem?_push, if_pos rfl]
      rfl
    · show ((w1.heap.push _).push _)[w1.heap.size + 1]? = _
      rw [Array.getElem?_push, if_pos (by simp)]
      rfl
  case round =>
    obtain ⟨k, hk, rfl, rfl, rvF, rvC, hT, hb⟩ := hrel
    have hsz := hb.size
    have s0 := sumN_nonneg hS k
    have s1 := hF.sum k hk
    by_cases hlt : k < m
    · obtain ⟨b1, o1, rfl, g0, g1⟩ := ha1.at hlt
      have g0 := kcell hb g0
      have g1 := kcell hb g1
      obtain ⟨u0, u1, u2, u3⟩ := hS k
      have s2 := (hF k hlt).1
      have hrl := rns_le S k
      rw [sumN] at s2
      have HT : Hid (Two wr w1.heap.size w1.heap.size (w1.heap.size + 1) rvF rvC (rns S k) (rns (cutS S h) k) (sumN S k) (sumN (cutS S h) k)) := hT
      clear hT
      have hxa : Below wr.heap.size wr (wr.alloc (Obj.cells #[Value.int IntKind.u64 (S k).term, Value.int IntKind.u64 (S k).n] 44)) := (Below.refl _ _).alloc (Nat.le_refl _) _
      have hba := hb.trans (hxa.mono hsz)
      have hTA := HT.out.kept hxa
      have HTA : Hid (Two (wr.alloc (Obj.cells #[Value.int IntKind.u64 (S k).term, Value.int IntKind.u64 (S k).n] 44)) w1.heap.size w1.heap.size (w1.heap.size + 1) rvF rvC (rns S k) (rns (cutS S h) k) (sumN S k) (sumN (cutS S h) k)) := hTA
      have lf := HT.out.f.lt
      have lc := HT.out.c.lt
      have z0 : (wr.alloc (Obj.cells #[Value.int IntKind.u64 (S k).term, Value.int IntKind.u64 (S k).n] 44)).cell? ⟨wr.heap.size, 0, none⟩ = some (.int .u64 (S k).term) := by simp
      have z1 : (wr.alloc (Obj.cells #[Value.int IntKind.u64 (S k).term, Value.int IntKind.u64 (S k).n] 44)).cell? ⟨wr.heap.size, 1, none⟩ = some (.int .u64 (S k).n) := by simp
      have hsa : w1.heap.size ≤ (wr.alloc (Obj.cells #[Value.int IntKind.u64 (S k).term, Value.int IntKind.u64 (S k).n] 44)).heap.size := hba.size
      have hcs := cut_sum hS hh0 k
      have hcb := cut_bounds hS h k
      have hrc := rns_le (cutS S h) k
      have HF1 : Hid (sumN S (k + 1) = sumN S k + (S k).n) := rfl
      have HC1 : Hid (sumN (cutS S h) (k + 1) = sumN (cutS S h) k + (cutS S h k).n) := rfl
      have hc2 : sumN (cutS S h) k + (cutS S h k).n ≤ 18446744073709551615 := by
        have := cut_sum hS hh0 (k + 1)
        rw [HC1.out] at this
        omega
      have hc0 : 0 ≤ sumN (cutS S h) k := by omega
      have hc1 : sumN (cutS S h) k ≤ 18446744073709551615 := by omega
      clear hTA HT hcs
      go_wp2_with fail
      generalize wr.alloc (Obj.cells #[Value.int IntKind.u64 (S k).term, Value.int IntKind.u64 (S k).n] 44) = WA at *
      refine (zzadd_any _ _ _ _ _ _ _ _ HTA.out.f hsa (by omega) s0 s1 u2).mono ?_
      rintro e w2 ⟨rfl, rv2, T2, mv2, kb2⟩
      have y0 := kb2.cell z0 (by omega) (fun e => by have := lf.2 _ e.symm; omega)
      have y1 := kb2.cell z1 (by omega) (fun e => by have := lf.2 _ e.symm; omega)
      have hb2 : Below w1.heap.size w1 w2 := hba.trans (HTA.out.f.below kb2 (Nat.le_refl _) (Nat.le_refl _) hsa)
      have hs2 := hb2.size
      rw [show addH (sumN S k) (S k).n = sumN S (k + 1) from (add_head s0 u2 s2).trans HF1.out.symm] at T2
      have HTB : Hid (Two w2 w1.heap.size w1.heap.size (w1.heap.size + 1) rv2 rvC (rns S (k + 1)) (rns (cutS S h) k) (sumN S (k + 1)) (sumN (cutS S h) k)) := HTA.out.addF (by omega) T2 mv2 kb2
      have lf2 := HTB.out.c.lt
      have hbs : w1.heap.size + 1 < wr.heap.size := lc.1
      have hlc : ∀ g, rvC.ownBlock = some g → g < wr.heap.size := lc.2
      clear T2 mv2 kb2 HTA hba hsa z0 z1 hxa lf lc lf2 hb g0 g1
      generalize wr.heap.size = bs at *
      go_upto_if 40 with fail
      go_cut [10] (fun v wx => v = .int .u64 (cutS S h k).n ∧ wx = w2)
      case first =>
        by_cases hp : sumN S k < h
        · by_cases hq : (S k).n < h - sumN S k
          · have hv : Hid ((cutS S h k).n = (S k).n) := by show _ = _; unfold cutS; simp only; rw [if_pos hp, if_pos hq]
            go_wp2
            go_meet
            case rel => exact ⟨by rw [hv.out], rfl⟩
          · have hv : Hid ((cutS S h k).n = h - sumN S k) := by show _ = _; unfold cutS; simp only; rw [if_pos hp, if_neg hq]
            go_wp2
            go_meet
            case rel => exact ⟨by rw [hv.out], rfl⟩
        · have hv : Hid ((cutS S h k).n = 0) := by show _ = _; unfold cutS; simp only; rw [if_neg hp]
          go_wp2
          go_meet
          case rel => exact ⟨by rw [hv.out], rfl⟩
      case rest =>
        obtain ⟨rfl, hwc⟩ := hcut
        subst hwc
        generalize wc = w2 at *
        obtain ⟨cn, hcn⟩ : ∃ x, Hid ((cutS S h k).n = x) := ⟨_, rfl⟩
        rw [hcn.out] at hcb hc2 HC1
        rw [hcn.out]
        go_wp2_with fail
        refine (zzadd_any _ _ _ _ _ _ _ _ HTB.out.c hs2 (by omega) hc0 hc1 hcb.1).mono ?_
        rintro e w3 ⟨rfl, rv3, T3, mv3, kb3⟩
        have x0 := kb3.cell y0 (by omega) (fun e => by have := hlc _ e.symm; omega)
        have x1 := kb3.cell y1 (by omega) (fun e => by have := hlc _ e.symm; omega)
        have hb3 : Below w1.heap.size w1 w3 := hb2.trans (HTB.out.c.below kb3 (by omega) (Nat.le_refl _) hs2)
        rw [show addH (sumN (cutS S h) k) cn = sumN (cutS S h) (k + 1) from (add_head hc0 hcb.1 hc2).trans HC1.out.symm, ← hcn.out] at T3
        have HTC : Hid (Two w3 w1.heap.size w1.heap.size (w1.heap.size + 1) rv2 rv3 (rns S (k + 1)) (rns (cutS S h) (k + 1)) (sumN S (k + 1)) (sumN (cutS S h) (k + 1))) := HTB.out.addC (by omega) T3 mv3 kb3
        clear T3 mv3 kb3 HTB y0 y1 hb2 hs2
        go_wp2
        go_roundw
        case rel => exact ⟨k + 1, by omega, by go_num, val_int HF1.out.symm, rv2, rv3, HTC.out, hb3⟩
        case measure => simp [intOf]; omega
    · obtain rfl : k = m := by omega
      obtain ⟨want, hwant⟩ : ∃ x, Hid (x = min h (sumN S k)) := ⟨_, rfl⟩
      have hN := rns_le S k
      have hNc := rns_le (cutS S h) k
      have hch : Hid (sumN (cutS S h) k = want) := cut_head hS hh0 hwant.out
      have LAW : Hid (∀ q, Lead (nth (rns S k)) (rns S k).length want q → q = (rns (cutS S h) k).length ∧ ∀ i, i < q → nth (rns S k) i = nth (rns (cutS S h) k) i) := fun q hq => built_prefix hS hF hh0 hwant.out hq
      have hb2 := below_then hb1 hb
      obtain ⟨aF, cF, hvF, hcF, hRF, hNF⟩ := own_R hT.f.own
      obtain ⟨aC, cC, hvC, hcC, hRC, hNC⟩ := own_R hT.c.own
      obtain ⟨f0, f1, _, _, _⟩ := hT.f.cells
      obtain ⟨d0, d1, _, _, _⟩ := hT.c.cells
      rw [hvF] at f0
      rw [hvC] at d0
      rw [hch.out] at d1
      obtain ⟨R, hR⟩ : ∃ R, Hid (rns S k = R) := ⟨_, rfl⟩
      obtain ⟨C, hC⟩ : ∃ R, Hid (rns (cutS S h) k = R) := ⟨_, rfl⟩
      rw [hR.out] at hN f0 hRF hNF hcF LAW
      rw [hC.out] at hNc d0 hRC hNC hcC LAW
      obtain ⟨P, hP⟩ : ∃ P, Hid (sumN S k = P) := ⟨_, rfl⟩
      rw [hP.out] at s0 s1 f1 hwant
      rw [hP.out]
      clear hT hb1 hb ha1 hlt hvF hvC hch
      go_upto_if 61 with fail
      go_cut [11] (fun v wx => v = .int .u64 want ∧ wx = wr)
      case first =>
        by_cases hp : h < P
        · have hv : Hid (min h P = h) := Int.min_eq_left (by omega)
          go_wp2
          go_meet
          case rel => exact ⟨by rw [hwant.out, hv.out], rfl⟩
        · have hv : Hid (min h P = P) := Int.min_eq_right (by omega)
          go_wp2
          go_meet
          case rel => exact ⟨by rw [hwant.out, hv.out], rfl⟩
      case rest =>
        obtain ⟨rfl, hwc⟩ := hcut
        subst hwc
        generalize wc = w4 at *
        go_wp2_with fail
        refine (prefix_any _ _ _ _ _ want (nth R) _ hwant (by omega) hcF hRF hNF).mono ?_
        rintro e w5 ⟨rv5, q, rfl, hL, hown5, hb5⟩
        obtain ⟨eq1, eq2⟩ := LAW.out q hL
        have EQ1 : Hid (q = C.length) := eq1
        have EQ2 : Hid (∀ i, i < q → nth R i = nth C i) := eq2
        obtain ⟨aP, cP, rfl, hcP, hRP, hNP, _⟩ := own_gl hown5
        have d0 := kcell hb5 d0
        have d1 := kcell hb5 d1
        have hRC5 := hRC.kept hb5
        have hb6 := below_then hb2 hb5
        have hx : Below w5.heap.size w5 (w5.alloc (.cells #[.slice aP q cP, .int .u64 want] 40)) := (Below.refl _ _).alloc (Nat.le_refl _) _
        have p0 : (w5.alloc (.cells #[.slice aP q cP, .int .u64 want] 40)).cell? ⟨w5.heap.size, 0, none⟩ = some (.slice aP q cP) := by simp
        have p1 : (w5.alloc (.cells #[.slice aP q cP, .int .u64 want] 40)).cell? ⟨w5.heap.size, 1, none⟩ = some (.int .u64 want) := by simp
        have d0 := kcell hx d0
        have d1 := kcell hx d1
        have hRC6 := hRC5.kept hx
        have hRP6 := hRP.kept hx
        have hb7 := below_then hb6 hx
        have hqn := hL.le
        clear hown5 hb5 eq1 eq2 LAW hL hx hb6 hb2 hRC hRC5 hRP hRF hNF f0 f1
        have hwt : (want == want) = true := by simp
        go_upto_region 26 with fail
        generalize w5.alloc (.cells #[.slice aP q cP, .int .u64 want] 40) = w6 at *
        generalize w5.heap.size = bp at *
        generalize w1.heap.size + 1 = bc at *
        go_region_with (first | (go_at_call_of 19 aP; refine (head_any _ _ _ ⟨_, _, _, rfl⟩).mono ?_; rintro e w7 ⟨rfl, hc7⟩; have hb8 : Below w6.heap.size w6 w7 := ⟨hc7.os, hc7.tape, hc7.output, hc7.size, hc7.block⟩; have p70 := kcell hb8 p0; have p71 := kcell hb8 p1; have d70 := kcell hb8 d0; have d71 := kcell hb8 d1) | (go_at_call_of 19 aC; refine (head_any _ _ _ ⟨_, _, _, rfl⟩).mono ?_; rintro e w8 ⟨rfl, hc8⟩; have hb9 := below_then hb8 hc8; have p80 := kcell hb9 p0; have p81 := kcell hb9 p1; have d80 := kcell hb9 d0; have d81 := kcell hb9 d1) | (go_at_call_of 18 aP; refine (runs_any _ _ _ ⟨_, _, _, rfl⟩).mono ?_; rintro e w9 ⟨rfl, hc9⟩; have hb10 := below_then hb9 hc9; have d90 := kcell hb10 d0; have d91 := kcell hb10 d1) | (go_at_call_of 18 aC; refine (runs_any _ _ _ ⟨_, _, _, rfl⟩).mono ?_; rintro e w10 ⟨rfl, hc10⟩; have hb11 := below_then hb10 hc10) | (go_at_call 24; refine (runsEq_any _ _ _ _ _ _ (nth R) (nth C) _ (by unfold maxLen; omega) (hRP6.kept hb11) (hRC6.kept hb11) EQ1 EQ2).mono ?_; rintro e w11 ⟨rfl, hc11⟩; have hb12 := below_then hb11 hc11))
        all_goals
          go_wp2
          go_ret
          exact ⟨rfl, below_then hb7 hb12⟩
end Go.Proofs.Qxb6617302a

/-
  THE WALK of 'FnTermsPrefixComposes': out of the contracts of its callees.
-/
import Derived.Test.Qxb6617302aPrefixMore
import Derived.Deep.DeepCutAuto
import Derived.BigRegion
namespace Go.Proofs.Qxb6617302a
open Go.RowKit

/-- All that the law keeps an eye on, at once. -/
structure CSt (w : World) (bt ba bd : Nat) (v1 v4 v5 : Value) (hd want : Int) (a1 r a4 a5 : Option Addr) (n k2 kd B : Nat) (G : Nat → Rn) : Prop where
  t : TBox w bt v1 hd
  a : TBox w ba v4 want
  d : TBox w bd v5 want
  rt : RRow w a1 n G
  rr : RRow w r n G
  ra : RRow w a4 k2 G
  rd : RRow w a5 kd G
  own : w.ownsRow B 48 2 v5 kd (rcells (gl G kd))
theorem CSt.kept {w w' : World} {bt ba bd : Nat} {v1 v4 v5 : Value} {hd want : Int} {a1 r a4 a5 : Option Addr} {n k2 kd B : Nat} {G : Nat → Rn} (h : CSt w bt ba bd v1 v4 v5 hd want a1 r a4 a5 n k2 kd B G) (hb : Below w.heap.size w w') : CSt w' bt ba bd v1 v4 v5 hd want a1 r a4 a5 n k2 kd B G :=
  ⟨h.t.kept hb, h.a.kept hb, h.d.kept hb, h.rt.kept hb, h.rr.kept hb, h.ra.kept hb, h.rd.kept hb, own_kept h.own hb⟩

set_option maxRecDepth 100000 in
set_option maxHeartbeats 2000000 in
theorem compose_walk (r : Option Addr) (n c : Nat) (hd a b : Int) (G : Nat → Rn) (w : World) (hn : n ≤ maxLen) (hr : RRow w r n G) (hrn : NilOk r n) :
   Calls Try.prog 8 #[.slice r n c, .int .u64 hd, .int .u64 a, .int .u64 b] w fun e w' => e = .returned (.bool true) ∧ Below w.heap.size w w' := by
  by_cases hnl : n ≤ 65536
  rotate_left
  · go_enter Try.func8, Try.ntmps8
    go_wp2_with fail
    refine (bytes25_any _ _ _ _ _ _ _ hn).mono ?_
    rintro e w' ⟨rfl | rfl, hw⟩
    all_goals
      subst hw
      go_wp2
      go_ret
      exact ⟨rfl, Below.refl _ _⟩
  go_enter Try.func8, Try.ntmps8
  go_wp2_with fail
  refine (bytes25_any _ _ _ _ _ _ _ hn).mono ?_
  rintro e w' ⟨rfl | rfl, hw⟩
  rotate_left
  · subst hw
    go_wp2
    go_ret
    exact ⟨rfl, Below.refl _ _⟩
  subst hw
  go_wp2_with fail
  refine (zterms_any _ _ _ hd G _ (by omega) hr hrn).mono ?_
  rintro e w1 ⟨rv1, rfl, hown1, hb1⟩
  obtain ⟨ao1, cp1, rfl, hcp1, hRR1, hN1, hg1⟩ := own_gl hown1
  have HG1 : Hid (0 < n → ∃ g, ao1 = some ⟨g, 0, none⟩ ∧ w'.heap.size ≤ g ∧ g < w1.heap.size) := hg1
  clear hg1 hown1
  obtain ⟨mm, hmm⟩ : ∃ m, Hid (m = min a b) := ⟨_, rfl⟩
  obtain ⟨want, hwant⟩ : ∃ m, Hid (m = min mm hd) := ⟨_, rfl⟩
  have hbx : Below w1.heap.size w1 (w1.alloc (.cells #[.slice ao1 n cp1, .int .u64 hd] 40)) := (Below.refl _ _).alloc (Nat.le_refl _) _
  have hT := TBox.new w1 (.slice ao1 n cp1) hd
  have hRR2 := hRR1.kept hbx
  have hr2 := (hr.kept hb1).kept hbx
  have hb2 := below_then hb1 hbx
  have hlt1 : w1.heap.size < (w1.alloc (.cells #[.slice ao1 n cp1, .int .u64 hd] 40)).heap.size := by simp
  go_upto_if 32 with fail
  generalize w1.alloc (.cells #[.slice ao1 n cp1, .int .u64 hd] 40) = W at *
  go_cut [10] (fun v wr => v = .int .u64 mm ∧ wr = W)
  case first =>
    by_cases hlt : b < a
    · have hm : Hid (min a b = b) := Int.min_eq_right (by omega)
      go_wp2
      go_meet
      case rel => exact ⟨by rw [hmm.out, hm.out], rfl⟩
    · have hm : Hid (min a b = a) := Int.min_eq_left (by omega)
      go_wp2
      go_meet
      case rel => exact ⟨by rw [hmm.out, hm.out], rfl⟩
  case rest =>
    obtain ⟨rfl, hwc⟩ := hcut
    subst hwc
    go_upto_if 37 with fail
    go_cut [11] (fun v wr => v = .int .u64 want ∧ wr = wc)
    case first =>
      by_cases hlt : hd < mm
      · have hm : Hid (min mm hd = hd) := Int.min_eq_right (by omega)
        go_wp2
        go_meet
        case rel => exact ⟨by rw [hwant.out, hm.out], rfl⟩
      · have hm : Hid (min mm hd = mm) := Int.min_eq_left (by omega)
        go_wp2
        go_meet
        case rel => exact ⟨by rw [hwant.out, hm.out], rfl⟩
    case rest =>
      obtain ⟨rfl, hwc⟩ := hcut
      subst hwc
      generalize wc = W2 at *
      have hbt0 := hb1.size
      generalize w1.heap.size = bt at *
      obtain ⟨h1, hh1⟩ : ∃ h, Hid (h = min a hd) := ⟨_, rfl⟩
      have hh2 : Hid (want = min b h1) := by show _ = _; rw [hh1.out, hwant.out, hmm.out]; omega
      have e21 : want ≤ h1 := by rw [hh2.out]; omega
      clear hRR1 hbx hb1
      obtain ⟨t0, t1⟩ := hT
      go_wp2_with fail
      refine (prefix_any _ _ _ _ _ h1 G _ hh1 (by omega) hcp1 hRR2 hN1).mono ?_
      rintro e w3 ⟨rv3, k1, rfl, hL1, hown3, hb3⟩
      obtain ⟨ao3, cp3, rfl, hcp3, hRR3, hN3, _⟩ := own_gl hown3
      have hk1 := hL1.le
      have hT3 : TBox w3 bt (.slice ao1 n cp1) hd := ⟨kcell hb3 t0, kcell hb3 t1⟩
      have hRt3 := hRR2.kept hb3
      have hr3 := hr2.kept hb3
      have hlt3 : bt < w3.heap.size := Nat.lt_of_lt_of_le hlt1 hb3.size
      have hb4 := below_then hb2 hb3
      clear hown3 hb3 t0 t1 hRR2 hr2 hb2 hlt1
      go_wp2_with fail
      refine (prefix_any _ _ _ _ _ want G _ hh2 (by omega) hcp3 hRR3 hN3).mono ?_
      rintro e w4 ⟨rv4, k2, rfl, hL2, hown4, hb5⟩
      have hLc := hL1.compose hL2 e21
      have HLC : Hid (Lead G n want k2) := hLc
      obtain ⟨ao4, cp4, rfl, hcp4, hRR4, hN4, _⟩ := own_gl hown4
      have hk2 := hLc.le
      have hx4 : Below w4.heap.size w4 (w4.alloc (.cells #[.slice ao4 k2 cp4, .int .u64 want] 40)) := (Below.refl _ _).alloc (Nat.le_refl _) _
      have hA4 := TBox.new w4 (.slice ao4 k2 cp4) want
      have hT4 := (hT3.kept hb5).kept hx4
      have hRt4 := (hRt3.kept hb5).kept hx4
      have hr4 := (hr3.kept hb5).kept hx4
      have hRa4 := hRR4.kept hx4
      have hb6 := below_then (below_then hb4 hb5) hx4
      have hlt4 : bt < (w4.alloc (.cells #[.slice ao4 k2 cp4, .int .u64 want] 40)).heap.size := by have := hb5.size; simp; omega
      clear hown4 hb5 hT3 hRt3 hr3 hb4 hRR3 hRR4 hN3 hL1 hL2 hLc hx4 hlt3
      obtain ⟨t0, t1⟩ := hT4
      go_wp2_with fail
      generalize w4.alloc (.cells #[.slice ao4 k2 cp4, .int .u64 want] 40) = W4 at *
      refine (prefix_any _ _ _ _ _ want G _ hwant (by omega) hcp1 hRt4 hN1).mono ?_
      rintro e w5 ⟨rv5, kd, rfl, hL5, hown5, hb7⟩
      have ekd : Hid (k2 = kd) := HLC.out.unique hL5
      have HL5 : Hid (Lead G n want kd) := hL5
      have hkd := hL5.le
      obtain ⟨ao5, cp5, rfl, hcp5, hRR5, hN5, hg5⟩ := own_gl hown5
      have HG5 : Hid (0 < kd → ∃ g, ao5 = some ⟨g, 0, none⟩ ∧ W4.heap.size ≤ g ∧ g < w5.heap.size) := hg5
      have hx5 : Below w5.heap.size w5 (w5.alloc (.cells #[.slice ao5 kd cp5, .int .u64 want] 40)) := (Below.refl _ _).alloc (Nat.le_refl _) _
      have hD5 := TBox.new w5 (.slice ao5 kd cp5) want
      have hT5 : TBox _ bt (.slice ao1 n cp1) hd := TBox.kept (TBox.kept ⟨t0, t1⟩ hb7) hx5
      have hA5 := (hA4.kept hb7).kept hx5
      have hRt5 := (hRt4.kept hb7).kept hx5
      have hr5 := (hr4.kept hb7).kept hx5
      have hRa5 := (hRa4.kept hb7).kept hx5
      have hRd5 := hRR5.kept hx5
      have hown6 := own_kept hown5 hx5
      have hb8 := below_then (below_then hb6 hb7) hx5
      have C5 : CSt (w5.alloc (.cells #[.slice ao5 kd cp5, .int .u64 want] 40)) bt w4.heap.size w5.heap.size (.slice ao1 n cp1) (.slice ao4 k2 cp4) (.slice ao5 kd cp5) hd want ao1 r ao4 ao5 n k2 kd W4.heap.size G := ⟨hT5, hA5, hD5, hRt5, hr5, hRa5, hRd5, hown6⟩
      clear hown5 hb7 t0 t1 hA4 hRt4 hr4 hRa4 hb6 hRR5 hL5 hg5 hx5 hT5 hA5 hRt5 hr5 hRa5 hRd5 hown6 HLC
      obtain ⟨t0, t1⟩ := hD5
      go_wp2_with fail
      generalize w5.alloc (.cells #[.slice ao5 kd cp5, .int .u64 want] 40) = W5 at *
      generalize w4.heap.size = ba at *
      generalize w5.heap.size = bd at *
      have hwne : (want != want) = false := by simp
      refine (runs_any _ _ _ ⟨_, _, _, rfl⟩).mono ?_
      rintro e w6 ⟨rfl, hc6⟩
      have C6 := C5.kept hc6
      have hb6 := below_then hb8 hc6
      clear C5 hb8 hc6 t0 t1
      obtain ⟨t0, t1⟩ := C6.a
      go_wp2_with fail
      refine (head_any _ _ _ ⟨_, _, _, rfl⟩).mono ?_
      rintro e w7 ⟨rfl, hc7⟩
      have C7 := C6.kept hc7
      have hb7 := below_then hb6 hc7
      clear C6 hb6 hc7 t0 t1
      obtain ⟨t0, t1⟩ := C7.d
      go_wp2_with fail
      refine (head_any _ _ _ ⟨_, _, _, rfl⟩).mono ?_
      rintro e w8 ⟨rfl, hc8⟩
      have C8 := C7.kept hc8
      have hb8 := below_then hb7 hc8
      clear C7 hb7 hc8 t0 t1
      obtain ⟨t0, t1⟩ := C8.a
      go_wp2_with fail
      refine (runs_any _ _ _ ⟨_, _, _, rfl⟩).mono ?_
      rintro e w9 ⟨rfl, hc9⟩
      have C9 := C8.kept hc9
      have hb9 := below_then hb8 hc9
      clear C8 hb8 hc9 t0 t1
      go_wp2_with fail
      refine (runsEq_any _ _ _ _ _ _ G G _ (by unfold maxLen; omega) C9.ra C9.rd ekd (fun _ _ => rfl)).mono ?_
      rintro e w10 ⟨rfl, hc10⟩
      have C10 := C9.kept hc10
      have hb10 := below_then hb9 hc10
      clear C9 hb9 hc10
      go_wp2_with fail
      go_loopw [15] (fun i wr => ∃ q : Nat, q ≤ kd ∧ i = .int .i64 q ∧ ∃ z, wr = w10.drewN z) (fun i _ => kd - (intOf i).toNat)
      case atStart => exact ⟨0, Nat.zero_le _, rfl, 0, rfl⟩
      case round =>
        obtain ⟨q, hq, rfl, z, rfl⟩ := hrel
        by_cases hlt : q < kd
        · obtain ⟨b0, o0, rfl, k0, k1'⟩ := C10.rr.at (i := q) (by omega)
          obtain ⟨b5, o5, rfl, k4, k5⟩ := C10.rd.at hlt
          have hlo := HL5.out.lo q hlt
          obtain ⟨ff, hff⟩ : ∃ x, Hid ((G q).first = x) := ⟨_, rfl⟩
          obtain ⟨tt, htt⟩ : ∃ x, Hid ((G q).term = x) := ⟨_, rfl⟩
          rw [hff.out] at k0 k4 hlo
          rw [htt.out] at k1' k5
          have e1 : (ff != ff) = false := by simp
          have e3 : (tt != tt) = false := by simp
          have e4 : decide (want ≤ ff) = false := by simp; omega
          have hqn : q < n := by omega
          clear C10
          go_wp2
          go_quiet (fail)
          go_wp2
          go_roundw
          case rel => exact ⟨q + 1, by omega, by go_num, _, rfl⟩
          case measure => simp [intOf]; omega
        · obtain rfl : q = kd := by omega
          have hb11 : Below w'.heap.size w' (w10.drewN z) := below_drewN hb10 z
          have C11 := C10.kept (below_drewN (Below.refl _ _) z)
          clear hb10 C10
          generalize w10.drewN z = w11 at *
          go_upto_region 26 with fail
          go_cut [122] (fun v wr => v = .bool false ∧ wr = w11)
          case first =>
            by_cases hqn : q < n
            · obtain ⟨b0, o0, rfl, k0, _⟩ := C11.rr.at hqn
              have hhi := HL5.out.hi hqn
              obtain ⟨ff, hff⟩ : ∃ x, Hid ((G q).first = x) := ⟨_, rfl⟩
              rw [hff.out] at k0 hhi
              clear C11
              go_wp2
              go_meet
              case rel => exact ⟨rfl, rfl⟩
            · clear C11
              go_wp2
              go_meet
              case rel => exact ⟨rfl, rfl⟩
          case rest =>
            obtain ⟨rfl, hwc⟩ := hcut
            subst hwc
            generalize wc = w11 at *
            by_cases hpos : 0 < q
            rotate_left
            · clear C11
              go_wp2
              go_ret
              exact ⟨rfl, hb11⟩
            obtain ⟨g5, rfl, hg51, hg52⟩ := HG5.out hpos
            obtain ⟨g1, rfl, hg11, hg12⟩ := HG1.out (by omega)
            have hown := C11.own
            have fz0 := hown.frozenAt 0
            have fz1 := hown.frozenAt 1
            obtain ⟨y0, y1⟩ : w11.cell? ⟨g5, 0, none⟩ = some (.int .u64 (G 0).first) ∧ w11.cell? ⟨g5, 1, none⟩ = some (.int .u64 (G 0).term) := by
              obtain ⟨b, o, e, h0, h1⟩ := C11.rd.at hpos
              obtain ⟨rfl, rfl⟩ : g5 = b ∧ 0 = o := by simpa using e
              exact ⟨by simpa using h0, by simpa using h1⟩
            have z0 : w11.cell? ⟨g1, 0, none⟩ = some (.int .u64 (G 0).first) := by
              obtain ⟨b, o, e, h0, h1⟩ := C11.rt.at (i := 0) (by omega)
              obtain ⟨rfl, rfl⟩ : g1 = b ∧ 0 = o := by simpa using e
              simpa using h0
            obtain ⟨b0, o0, rfl, r0, _⟩ := C11.rr.at (i := 0) (by omega)
            have r0 : w11.cell? ⟨b0, o0, none⟩ = some (.int .u64 (G 0).first) := by simpa using r0
            obtain ⟨tb0, tb1⟩ := C11.t
            have hb0lt : b0 < w'.heap.size := by
              rcases hr with h | ⟨b, o, e, hc⟩
              · omega
              · obtain ⟨rfl, rfl⟩ : b0 = b ∧ o0 = o := by simpa using e
                exact World.block_lt_of_cell? w' ⟨b0, o0 + 0 * 2, none⟩ (hc 0 (by omega)).1
            have nb1 : bt ≠ g5 := by omega
            have ng1 : g1 ≠ g5 := by omega
            have nb0 : b0 ≠ g5 := by omega
            obtain ⟨ff, hff⟩ : ∃ x, Hid ((G 0).first = x) := ⟨_, rfl⟩
            obtain ⟨tt, htt⟩ : ∃ x, Hid ((G 0).term = x) := ⟨_, rfl⟩
            rw [hff.out] at y0 z0 r0
            rw [htt.out] at y1
            have e1 : (ff != ff) = false := by simp
            have KEEP : ∀ (u v : Value) (b o : Nat) (x : Value), b ≠ g5 → w11.cell? ⟨b, o, none⟩ = some x → ((w11.setCell ⟨g5, 0, none⟩ u).setCell ⟨g5, 1, none⟩ v).drew.cell? ⟨b, o, none⟩ = some x := by
              intro u v b o x hne hx
              show ((w11.setCell ⟨g5, 0, none⟩ u).setCell ⟨g5, 1, none⟩ v).cell? ⟨b, o, none⟩ = some x
              rw [World.cell?_of_block (w := w11.setCell ⟨g5, 0, none⟩ u) (heap_setCell_other _ _ _ _ hne), World.cell?_of_block (w := w11) (heap_setCell_other _ _ _ _ hne)]
              exact hx
            have Z0 : Hid (∀ u v, ((w11.setCell ⟨g5, 0, none⟩ u).setCell ⟨g5, 1, none⟩ v).drew.cell? ⟨g1, 0, none⟩ = some (.int .u64 ff)) := fun u v => KEEP u v _ _ _ ng1 z0
            have R0 : Hid (∀ u v, ((w11.setCell ⟨g5, 0, none⟩ u).setCell ⟨g5, 1, none⟩ v).drew.cell? ⟨b0, o0, none⟩ = some (.int .u64 ff)) := fun u v => KEEP u v _ _ _ nb0 r0
            have T0 : Hid (∀ u v, ((w11.setCell ⟨g5, 0, none⟩ u).setCell ⟨g5, 1, none⟩ v).drew.cell? ⟨bt, 0, none⟩ = some (.slice (some ⟨g1, 0, none⟩) n cp1)) := fun u v => KEEP u v _ _ _ nb1 tb0
            have T1 : Hid (∀ u v, ((w11.setCell ⟨g5, 0, none⟩ u).setCell ⟨g5, 1, none⟩ v).drew.cell? ⟨bt, 1, none⟩ = some (.int .u64 hd)) := fun u v => KEEP u v _ _ _ nb1 tb1
            have BL : Hid (∀ u v, Below w'.heap.size w' ((w11.setCell ⟨g5, 0, none⟩ u).setCell ⟨g5, 1, none⟩ v).drew) := fun u v => ((hb11.setCell (p := ⟨g5, 0, none⟩) (show w'.heap.size ≤ g5 by omega) u).setCell (p := ⟨g5, 1, none⟩) (show w'.heap.size ≤ g5 by omega) v).drew
            clear C11 KEEP z0 r0 tb0 tb1 hown
            go_wp2_with fail
            go_region
            have Z1 := Z0.out (.int .u64 (IntKind.u64.wrap (ff + 1))) (.int .u64 tt)
            have R1 := R0.out (.int .u64 (IntKind.u64.wrap (ff + 1))) (.int .u64 tt)
            have T2 := T0.out (.int .u64 (IntKind.u64.wrap (ff + 1))) (.int .u64 tt)
            have T3 := T1.out (.int .u64 (IntKind.u64.wrap (ff + 1))) (.int .u64 tt)
            have B1 := BL.out (.int .u64 (IntKind.u64.wrap (ff + 1))) (.int .u64 tt)
            clear Z0 R0 T0 T1 BL hb11
            generalize ((w11.setCell ⟨g5, 0, none⟩ (.int .u64 (IntKind.u64.wrap (ff + 1)))).setCell ⟨g5, 1, none⟩ (.int .u64 tt)).drew = w12 at *
            go_wp2_with fail
            refine (runs_any _ _ _ ⟨_, _, _, rfl⟩).mono ?_
            rintro e w13 ⟨rfl, hc13⟩
            have Z2 := kcell hc13 Z1
            have R2 := kcell hc13 R1
            have B2 := below_then B1 hc13
            have hnp : 0 < n := by omega
            go_wp2
            go_quiet (fail)
            go_wp2
            go_ret
            exact ⟨rfl, below_drewN B2 _⟩
end Go.Proofs.Qxb6617302a

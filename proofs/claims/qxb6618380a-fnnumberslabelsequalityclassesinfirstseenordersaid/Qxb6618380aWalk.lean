/-
  The walk of the law.
-/
import Derived.Test.Qxb6618380aPlain
import Derived.Deep.DeepCutAuto
namespace Go.Proofs.Qxb6618380a
open Go.RowKit

theorem one_fresh (w : World) (v : Value) (t : TypeId) : ∀ (j : Nat) (u : Value), [v][j]? = some u → (w.alloc (.cells #[v] t)).cell? ((⟨w.heap.size, 0, none⟩ : Addr).add j) = some u := by
  intro j u h
  obtain rfl : j = 0 := by
    by_cases h0 : j = 0
    · exact h0
    · rw [List.getElem?_eq_none (by simp; omega)] at h; cases h
  simp at h; subst h
  simp [Addr.add]
theorem one_cell (x : Int) : ∀ u ∈ [Value.int .i64 x], u.oneCell' = true := by
  intro u hu; simp at hu; subst hu; rfl

/-- The list of the lines that stand for the labels, as it lies in the world. -/
def RepRow (w : World) (base g cap : Nat) (rp : List Nat) : Prop := w.ownsRow base 3 1 (.slice (some ⟨g, 0, none⟩) rp.length cap) rp.length (rp.map fun r : Nat => .int .i64 (r : Int))
theorem RepRow.kept {w w' : World} {base g cap : Nat} {rp : List Nat} (h : RepRow w base g cap rp) (hb : Below w.heap.size w w') : RepRow w' base g cap rp :=
  World.ownsRow.kept (row := none) h ⟨hb.os, hb.tape, hb.output, hb.size, fun k hk _ => hb.block k hk⟩ (.inr (by simp [Value.ownBlock]))
theorem RepRow.at {w : World} {base g cap : Nat} {rp : List Nat} (h : RepRow w base g cap rp) {k r : Nat} (hr : rp[k]? = some r) : w.cell? ⟨g, k, none⟩ = some (.int .i64 r) := by
  have hk : k < rp.length := by
    by_cases hk : k < rp.length
    · exact hk
    · rw [List.getElem?_eq_none (by omega)] at hr; cases hr
  rw [World.ownsRow.cellAt h k (by omega), List.getElem?_map, hr]; rfl

set_option maxRecDepth 100000 in
set_option maxHeartbeats 4000000 in
/-- The law behind its guards. -/
theorem law_any (a b : Option Addr) (n c m d : Nat) (L M : Nat → Ln) (w : World) (hn : n ≤ maxLen) (hm : m ≤ maxLen) (ha : LRow w a n L) (hb : LRow w b m M) :
   Calls Try.prog 3 #[.slice a n c, .slice b m d] w fun e w' => e = .returned (.bool true) ∧ Below w.heap.size w w' := by
  obtain ⟨i3, hi3, hz0, hz1, hz2⟩ := info_parts info3
  have hn1 := hn
  have hm1 := hm
  unfold maxLen at hn1 hm1
  go_enter Try.func3, Try.ntmps3
  go_wp2_with (fail)
  refine (bytes_any a b n c m d L M w hn hm ha hb).mono ?_
  rintro e w1 ⟨he, rfl⟩
  rcases he with rfl | rfl
  rotate_left
  · go_wp2_with (fail)
    go_ret
    exact ⟨rfl, Below.refl _ _⟩
  by_cases hN : n ≤ 65536
  rotate_left
  · go_wp2_with (fail)
    go_ret
    exact ⟨rfl, Below.refl _ _⟩
  by_cases hMm : m ≤ 65536
  rotate_left
  · go_wp2_with (fail)
    go_ret
    exact ⟨rfl, Below.refl _ _⟩
  go_wp2_with (fail)
  go_loop [5, 6] (fun z i => ∃ k : Nat, k ≤ n ∧ i = .int .i64 k ∧ ∃ t : Int, z = .int .i64 t) (fun _ i => n - (intOf i).toNat)
  case atStart => exact ⟨0, Nat.zero_le _, rfl, 0, rfl⟩
  case round =>
    obtain ⟨k, hk, rfl, t, rfl⟩ := hrel
    by_cases hlt : k < n
    · obtain ⟨b1, o1, rfl, g0, gl⟩ := ha.at hlt
      have gm := gl.max
      unfold maxLen at gm
      clear gl
      go_wp2_with (fail)
      · go_ret
        exact ⟨rfl, Below.refl _ _⟩
      · go_round
        case rel => exact ⟨k + 1, by omega, by go_num, _, rfl⟩
        case measure => simp [intOf]; omega
    · go_wp2_with (fail)
      go_loop [5, 7] (fun z i => ∃ k : Nat, k ≤ m ∧ i = .int .i64 k ∧ ∃ t : Int, z = .int .i64 t) (fun _ i => m - (intOf i).toNat)
      case atStart => exact ⟨0, Nat.zero_le _, rfl, t, rfl⟩
      case round =>
        clear hlt
        obtain ⟨k, hk, rfl, t, rfl⟩ := hrel
        by_cases hlt : k < m
        · obtain ⟨b1, o1, rfl, g0, gl⟩ := hb.at hlt
          have gm := gl.max
          unfold maxLen at gm
          clear gl
          go_wp2_with (fail)
          · go_ret
            exact ⟨rfl, Below.refl _ _⟩
          · go_round
            case rel => exact ⟨k + 1, by omega, by go_num, _, rfl⟩
            case measure => simp [intOf]; omega
        · go_wp2_with (fail)
          refine (zznumbers_any a b n c m d L M w1 hN hMm ha hb).mono ?_
          rintro e w2 ⟨g, h, rfl, hNu⟩
          rw [accs_both]
          have ha2 := ha.kept hNu.bel
          have hb2 := hb.kept hNu.bel
          have hI1 := hNu.left
          have hI2 := hNu.right
          obtain ⟨fin, hfin⟩ : ∃ x, Hid ((accs [] (K2 n L M) (n + m)).length = x) := ⟨_, rfl⟩
          rw [hfin.out]
          clear hlt
          go_wp2_with (at_make; refine wpList_make_own _ rfl _ _ 25 rfl w2.heap.size 3 i3 _ 1 Try.underlying25 hi3 hz0 hz1 .i64 .i64 _ (n + m) rfl rfl (by omega) (by rw [hz2]; omega) (by unfold maxLen; omega) (Nat.le_refl _) ?_; intro w3 hown hgr)
          have hb3 : Below w2.heap.size w2 w3 := ⟨hgr.os, hgr.tape, hgr.output, hgr.size, fun k hk => hgr.block k hk (by simp)⟩
          have hR0 : RepRow w3 w2.heap.size w2.heap.size (n + m) [] := hown
          obtain ⟨K, hK⟩ : ∃ K, Hid (K2 n L M = K) := ⟨_, rfl⟩
          rw [hK.out] at hfin
          clear hown hgr
          go_loopw [13, 14, 15] (fun r t i wr => ∃ (p N : Nat) (rp : List Nat), p ≤ n + m ∧ i = .int .i64 p ∧ Hid (Reps K p rp) ∧ Hid (rp.length = N) ∧ t = .int .i64 ((N : Int) - 1) ∧ r = .slice (some ⟨w2.heap.size, 0, none⟩) N (n + m) ∧ RepRow wr w2.heap.size w2.heap.size (n + m) rp ∧ Below w2.heap.size w2 wr) (fun _ _ i _ => n + m - (intOf i).toNat)
          case atStart => exact ⟨0, 0, [], Nat.zero_le _, rfl, reps_nil K, rfl, by simp, rfl, hR0, hb3⟩
          case round =>
            obtain ⟨p, N, rp, hp, rfl, HRE, HN, rfl, rfl, hR, hbr⟩ := hrel
            have hrl := HRE.out.len_le
            rw [HN.out] at hrl
            by_cases hlt : p < n + m
            · have haR := ha2.kept hbr
              have hbR := hb2.kept hbr
              have hlp := line_ok haR hbR hlt
              obtain ⟨X, hX⟩ : ∃ X, Hid (lineOf n L M p = X) := ⟨_, rfl⟩
              rw [hX.out] at hlp
              have hXK : Hid (kb X.bs = K p) := by show _ = _; rw [← hK.out, ← hX.out]; rfl
              obtain ⟨v, hv⟩ : ∃ v, Hid (idx (accs [] K (p + 1)) (K p) = v) := ⟨_, rfl⟩
              have hvV : Hid (V2 n L M p = v) := by show _ = _; unfold V2; rw [hK.out]; exact hv.out
              go_wp2_with (fail)
              refine (line_any a b n c m d p L M wr hN hMm haR hbR hlt).mono ?_
              rintro e w4 ⟨he, hw⟩
              rw [hX.out] at he
              replace hw := hw.symm
              subst he hw
              go_wp2_with (fail)
              refine (num_any g h n n m m p L M wr hN hMm (hI1.kept hbr) (hI2.kept hbr) hlt).mono ?_
              rintro e w4 ⟨he, hw⟩
              rw [hvV.out] at he
              replace hw := hw.symm
              subst he hw
              by_cases hin : K p ∈ accs [] K p
              · obtain ⟨h1, h2, h3⟩ := HRE.out.old hin
                rw [hv.out] at h1 h2
                obtain ⟨r, hr⟩ : ∃ r, rp[v]? = some r := ⟨_, List.getElem?_eq_getElem h1⟩
                have hrp := HRE.out.below _ _ hr
                have hrK : Hid (K r = K p) := h2 r hr
                have gr := hR.at hr
                have hlr := line_ok haR hbR (show r < n + m by omega)
                obtain ⟨Y, hY⟩ : ∃ Y, Hid (lineOf n L M r = Y) := ⟨_, rfl⟩
                rw [hY.out] at hlr
                have hYK : Hid (kb Y.bs = K r) := by show _ = _; rw [← hK.out, ← hY.out]; rfl
                have hsame : Hid (decide (Y.bs = X.bs) = true) := by show _ = _; rw [same_key hlr hlp, hYK.out, hXK.out, hrK.out]; simp
                have H3 : Hid (Reps K (p + 1) rp) := h3
                rw [HN.out] at h1
                clear h2 h3 hin hr
                go_wp2_with (fail)
                refine (line_any a b n c m d r L M wr hN hMm haR hbR (by omega)).mono ?_
                rintro e w4 ⟨he, hw⟩
                rw [hY.out] at he
                replace hw := hw.symm
                subst he hw
                go_wp2_with (fail)
                refine (same_any Y X wr hlr hlp).mono ?_
                rintro e w5 ⟨he, hb5⟩
                rw [hsame.out] at he
                subst he
                go_wp2_with (fail)
                go_roundw
                case rel => exact ⟨p + 1, N, rp, by omega, by go_num, H3, HN, rfl, rfl, hR.kept hb5, below_then hbr hb5⟩
                case measure => simp [intOf]; omega
              · obtain ⟨h1, h2, h3⟩ := HRE.out.new hin
                rw [hv.out, HN.out] at h1
                subst h1
                have H2 : Hid (∀ (k r : Nat), rp[k]? = some r → K r ≠ K p) := h2
                have H3 : Hid (Reps K (p + 1) (rp ++ [p])) := h3
                clear h2 h3 hin
                go_wp2_with (fail)
                go_loopw [18] (fun k wx => ∃ q : Nat, q ≤ v ∧ k = .int .i64 q ∧ Below wr.heap.size wr wx) (fun k _ => v - (intOf k).toNat)
                case atStart => exact ⟨0, Nat.zero_le _, rfl, Below.refl _ _⟩
                case round =>
                  obtain ⟨q, hq, rfl, hbx⟩ := hrel
                  have hRx := hR.kept hbx
                  have haX := haR.kept hbx
                  have hbX := hbR.kept hbx
                  have hlX := hlp.kept hbx
                  have hbw := below_then hbr hbx
                  by_cases hqv : q < v
                  · obtain ⟨r, hr⟩ : ∃ r, rp[q]? = some r := ⟨_, List.getElem?_eq_getElem (by rw [HN.out]; exact hqv)⟩
                    have hrp := HRE.out.below _ _ hr
                    have hrK : Hid (K r ≠ K p) := H2.out q r hr
                    have gr := hRx.at hr
                    have hlr := line_ok haX hbX (show r < n + m by omega)
                    obtain ⟨Y, hY⟩ : ∃ Y, Hid (lineOf n L M r = Y) := ⟨_, rfl⟩
                    rw [hY.out] at hlr
                    have hYK : Hid (kb Y.bs = K r) := by show _ = _; rw [← hK.out, ← hY.out]; rfl
                    have hsame : Hid (decide (Y.bs = X.bs) = false) := by show _ = _; rw [same_key hlr hlX, hYK.out, hXK.out]; exact decide_eq_false hrK.out
                    clear hr
                    go_wp2_with (fail)
                    refine (line_any a b n c m d r L M wr hN hMm haX hbX (by omega)).mono ?_
                    rintro e w4 ⟨he, hw⟩
                    rw [hY.out] at he
                    replace hw := hw.symm
                    subst he hw
                    go_wp2_with (fail)
                    refine (same_any Y X wr hlr hlX).mono ?_
                    rintro e w5 ⟨he, hb5⟩
                    rw [hsame.out] at he
                    subst he
                    go_wp2_with (fail)
                    go_roundw
                    case rel => exact ⟨q + 1, by omega, by go_num, below_then hbx hb5⟩
                    case measure => simp [intOf]; omega
                  · have hsz := hbw.size
                    have hvl : v < n + m := by omega
                    have hRx' : wr.ownsRow w2.heap.size 3 1 (.slice (some ⟨w2.heap.size, 0, none⟩) v (n + m)) v (rp.map fun r : Nat => .int .i64 (r : Int)) := by rw [← HN.out]; exact hRx
                    go_wp2_with (at_builtin; refine wpList_append_fits _ rfl (.tmp 131) (.tmp 133) 25 rfl w2.heap.size 3 i3 1 Try.underlying25 hi3 hz1 w2.heap.size v (n + m) _ rfl (hRx'.alloc _) ⟨wr.heap.size, 0, none⟩ 1 1 [.int .i64 p] rfl rfl (one_fresh _ _ _) (one_cell _) (by omega) ?_; intro w6 ho6 hg6)
                    have hb6 : Below w2.heap.size w2 w6 := (hbw.alloc hsz _).grown hg6 (by simp; omega) (fun k hk => by cases hk; exact Nat.le_refl _)
                    go_roundw
                    case rel =>
                      refine ⟨p + 1, v + 1, rp ++ [p], by omega, by go_num, H3, by show _ = _; rw [List.length_append, HN.out]; rfl, val_int (by omega), rfl, ?_, hb6⟩
                      unfold RepRow
                      rw [List.length_append, HN.out, List.map_append]
                      exact ho6
                    case measure => simp [intOf]; omega
            · have hfl : fin = N := by
                have h1 := HRE.out.long
                rw [show p = n + m by omega, hfin.out, HN.out] at h1
                exact h1.symm
              subst hfl
              go_wp2_with (fail)
              go_ret
              exact ⟨ret_bool (by simp), hNu.bel.trans (hbr.mono hNu.bel.size)⟩
end Go.Proofs.Qxb6618380a

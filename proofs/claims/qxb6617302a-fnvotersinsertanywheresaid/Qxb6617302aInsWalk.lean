/-
  THE WALK of 'FnVotersInsertAnywhere': out of the contracts of its callees.
-/
import Derived.Test.Qxb6617302aInsPlain
import Derived.Test.Qxb6617302aGuards
import Derived.Test.Qxb6617302aMembership
import Derived.Deep.DeepCutAuto
namespace Go.Proofs.Qxb6617302a
open Go.RowKit

theorem cell_four_new (w : World) (v0 v1 v2 v3 : Value) (t : TypeId) : ∀ (j : Nat) (u : Value), [v0, v1, v2, v3][j]? = some u → (w.alloc (.cells #[v0, v1, v2, v3] t)).cell? ((⟨w.heap.size, 0, none⟩ : Addr).add j) = some u := by
  intro j u hj
  match j, hj with
  | 0, hj => simp at hj; subst hj; simp [Addr.add]
  | 1, hj => simp at hj; subst hj; simp [Addr.add]
  | 2, hj => simp at hj; subst hj; simp [Addr.add]
  | 3, hj => simp at hj; subst hj; simp [Addr.add]
theorem vals_oneCell (X : Mb) : ∀ u ∈ X.vals, u.oneCell' = true := by
  intro u hu
  simp [Mb.vals] at hu
  rcases hu with rfl | rfl | rfl | rfl <;> rfl
theorem take_one_more (L : List Int) (q : Nat) (h : q < L.length) (x : Int) (hx : L.getD q 0 = x) : (L.take (q + 1)).map (Value.int .u64) = (L.take q).map (Value.int .u64) ++ [.int .u64 x] := by
  rw [List.take_succ_eq_append_getElem h, List.map_append, ← hx]
  simp [List.getD, List.getElem?_eq_getElem h]
theorem URow.at {w : World} {ao : Option Addr} {n : Nat} {U : Nat → Int} (h : URow w ao n U) {q : Nat} (hq : q < n) : ∃ b off, ao = some ⟨b, off, none⟩ ∧ w.cell? ⟨b, off + q, none⟩ = some (.int .u64 (U q)) := by
  rcases h with h | ⟨b, off, h, hc⟩
  · omega
  · exact ⟨b, off, h, hc q hq⟩
theorem URow.of_own {w : World} {base e n g cap : Nat} {xs : List Int} (h : w.ownsRow base e 1 (.slice (some ⟨g, 0, none⟩) n cap) n (xs.map (Value.int .u64))) : URow w (some ⟨g, 0, none⟩) n (fun i => xs.getD i 0) := by
  obtain ⟨ao, c', hv, _, _, hU⟩ := URow.of_owns h
  simp at hv
  rw [hv.1]
  exact hU
/-- zzEqU64 at two slices that hold the same, their lengths told apart. -/
theorem equ_two (a b : Option Addr) (n c m d : Nat) (xs ys : List Int) (w : World) (hn : n ≤ maxLen) (ha : URow w a n (fun i => xs.getD i 0)) (hb : URow w b m (fun i => ys.getD i 0)) (hnm : Hid (n = m)) (hxy : Hid (xs = ys)) :
   Calls Try.prog 13 #[.slice a n c, .slice b m d] w fun e w' => e = .returned (.bool true) ∧ Below w.heap.size w w' := by
  have h1 := hnm.out
  have h2 := hxy.out
  subst h1 h2
  exact equ_any a b n c d _ _ w hn ha hb (fun _ _ => rfl)
theorem cell_one_fresh (w : World) (v : Value) (t : TypeId) : ∀ (j : Nat) (u : Value), [v][j]? = some u → (w.alloc (.cells #[v] t)).cell? ((⟨w.heap.size, 0, none⟩ : Addr).add j) = some u := by
  intro j u hj
  match j, hj with
  | 0, hj => simp at hj; subst hj; simp [Addr.add]
theorem num_oneCell (x : Int) : ∀ u ∈ [Value.int .u64 x], u.oneCell' = true := by
  intro u hu
  simp at hu
  subst hu; rfl

set_option maxRecDepth 4000 in
set_option maxHeartbeats 1000000 in
theorem ins_walk (x y : Int) (a b : Option Addr) (n c m d : Nat) (pi : Int) (M : Nat → Mb) (U : Nat → Int) (X : Mb) (w : World) (hn : n ≤ maxLen) (hnc : n ≤ c) (hm : m ≤ maxLen) (hX : X.addr.size ≤ maxLen) (ha : MRow w a n M) (hp : URow w b m U) (han : NilOk a n) (hbn : NilOk b m) :
   Calls Try.prog 3 #[.int .u64 x, .int .u64 y, .slice a n c, .slice b m d, .int .i64 pi, .agg #[.int .u64 X.id, .string X.addr, .int .u64 X.inc, .bool X.lrn]] w fun e w' => e = .returned (.bool true) ∧ Below w.heap.size w w' := by
  obtain ⟨i26, hi26, hy0, hy1, hy2⟩ := info_parts info26
  obtain ⟨i22, hi22, hz0, hz1, hz2⟩ := info_parts info22
  have hb0 : Below w.heap.size w (w.alloc (.cells #[.int .u64 X.id, .string X.addr, .int .u64 X.inc, .bool X.lrn] 26)) := (Below.refl _ _).alloc (Nat.le_refl _) _
  have ha0 := ha.kept hb0
  have hp0 := hp.kept hb0
  have hX0 : XBox (w.alloc (.cells #[.int .u64 X.id, .string X.addr, .int .u64 X.inc, .bool X.lrn] 26)) w.heap.size X := by
    refine ⟨?_, ?_, ?_, ?_⟩ <;> simp
  clear ha hp
  go_enter Try.func3, Try.ntmps3
  go_wp2_with fail
  refine (bytes9_any _ _ _ _ _ _ _ _ _ M X _ hn hm hX ha0).mono ?_
  rintro e w1 ⟨hr, hb1⟩
  have ha1 := ha0.kept hb1
  have hp1 := hp0.kept hb1
  have hX1 := hX0.kept hb1
  have hb1 := below_then hb0 hb1
  clear ha0 hp0 hX0
  rcases hr with rfl | rfl
  rotate_left
  · go_wp2
    go_ret
    exact ⟨rfl, hb1⟩
  obtain ⟨x0, x1, x2, x3⟩ := hX1
  go_wp2_with fail
  have hX1 : XBox w1 w.heap.size X := ⟨x0, x1, x2, x3⟩
  clear x0 x1 x2 x3
  refine (big_any _ _ _ _ _ _ M X _ hn hm hX ha1).mono ?_
  rintro e w2 ⟨hr, hb2⟩
  have ha2 := ha1.kept hb2
  have hp2 := hp1.kept hb2
  have hX2 := hX1.kept hb2
  have hb2 := below_then hb1 hb2
  clear ha1 hp1 hX1 hb1
  rcases hr with rfl | ⟨rfl, hn1, hm1⟩
  · go_wp2
    go_ret
    exact ⟨rfl, hb2⟩
  by_cases hpr : 0 ≤ pi ∧ pi ≤ n
  rotate_left
  · go_wp2
    all_goals
      go_ret
      exact ⟨rfl, hb2⟩
  obtain ⟨hpr0, hpr1⟩ := hpr
  obtain ⟨p, rfl⟩ : ∃ p : Nat, pi = (p : Int) := ⟨pi.toNat, by omega⟩
  have hpn : p ≤ n := by omega
  clear hpr0 hpr1
  go_wp2_with (at_make; refine wpList_make_own _ rfl _ _ 23 rfl w2.heap.size 26 i26 _ 4 Try.underlying23 hi26 hy0 hy1 .i64 .i64 _ (n + 1) rfl rfl (by omega) (by rw [hy2]; omega) (by unfold maxLen; omega) (Nat.le_refl _) ?_; intro w3 hown hgr)
  have hbm : Below w2.heap.size w2 w3 := (Below.refl _ _).grown hgr (Nat.le_refl _) (fun _ h => by cases h)
  go_loopw [13, 14] (fun v i wr => ∃ k : Nat, k ≤ p ∧ i = .int .i64 k ∧ v = .slice (some ⟨w2.heap.size, 0, none⟩) k (n + 1) ∧ wr.ownsRow w2.heap.size 26 4 (.slice (some ⟨w2.heap.size, 0, none⟩) k (n + 1)) k (mcells (insM M p X) k) ∧ Below w2.heap.size w2 wr) (fun _ i _ => p - (intOf i).toNat)
  case atStart => exact ⟨0, Nat.zero_le _, rfl, rfl, hown, hbm⟩
  case round =>
    clear hown hgr hbm
    obtain ⟨k, hk, rfl, rfl, ho, hb⟩ := hrel
    have hsz := hb.size
    by_cases hlt : k < p
    · have hMk : Hid (mcells (insM M p X) (k + 1) = mcells (insM M p X) k ++ (M k).vals) := by
        show _ = _
        rw [mcells]; unfold insM; rw [if_pos hlt]
      rcases ha2 with h0 | ⟨b1, o1, rfl, hc1⟩
      · omega
      obtain ⟨g0, g1, g2, g3⟩ := hc1 k (by omega)
      have g0 := kcell hb g0
      have g1 := kcell hb g1
      have g2 := kcell hb g2
      have g3 := kcell hb g3
      clear hc1
      go_wp2_with (at_builtin; refine wpList_append_fits _ rfl _ _ 23 rfl w2.heap.size 26 i26 4 Try.underlying23 hi26 hy1 w2.heap.size k (n + 1) _ rfl (ho.alloc _) ⟨wr.heap.size, 0, none⟩ 1 1 (M k).vals rfl rfl (cell_four_new _ _ _ _ _ _) (vals_oneCell _) (by omega) ?_; intro w4 ho4 hg4)
      have hb4 : Below w2.heap.size w2 w4 := (hb.alloc hsz _).grown hg4 (by simp; omega) (fun k hk => by cases hk; exact Nat.le_refl _)
      rw [← hMk.out] at ho4
      clear ho hg4 hb g0 g1 g2 g3
      go_wp2
      go_roundw
      case rel => exact ⟨k + 1, by omega, by go_num, rfl, ho4, hb4⟩
      case measure => simp [intOf]; omega
    · obtain rfl : k = p := by omega
      have ha3 := ha2.kept hb
      have hp3 := hp2.kept hb
      have hX3 := hX2.kept hb
      obtain ⟨x0, x1, x2, x3⟩ := hX3
      have hMk : Hid (mcells (insM M k X) (k + 1) = mcells (insM M k X) k ++ X.vals) := by
        show _ = _
        rw [mcells]; unfold insM; rw [if_neg (by omega), if_pos rfl]
      go_wp2_with (at_builtin; refine wpList_append_fits _ rfl _ _ 23 rfl w2.heap.size 26 i26 4 Try.underlying23 hi26 hy1 w2.heap.size k (n + 1) _ rfl (ho.alloc _) ⟨wr.heap.size, 0, none⟩ 1 1 X.vals rfl rfl (cell_four_new _ _ _ _ _ _) (vals_oneCell _) (by omega) ?_; intro w4 ho4 hg4)
      have hb4 : Below w2.heap.size w2 w4 := (hb.alloc hsz _).grown hg4 (by simp; omega) (fun k hk => by cases hk; exact Nat.le_refl _)
      rw [← hMk.out] at ho4
      clear ho hg4 hb x0 x1 x2 x3 hlt ha3 hp3 hsz
      go_loopw [13, 15] (fun v i wr => ∃ j : Nat, k ≤ j ∧ j ≤ n ∧ i = .int .i64 j ∧ v = .slice (some ⟨w2.heap.size, 0, none⟩) (j + 1) (n + 1) ∧ wr.ownsRow w2.heap.size 26 4 (.slice (some ⟨w2.heap.size, 0, none⟩) (j + 1) (n + 1)) (j + 1) (mcells (insM M k X) (j + 1)) ∧ Below w2.heap.size w2 wr) (fun _ i _ => n - (intOf i).toNat)
      case atStart => exact ⟨k, Nat.le_refl _, hpn, rfl, rfl, ho4, hb4⟩
      case round =>
        clear ho4 hb4 hMk
        obtain ⟨j, hj0, hj, rfl, rfl, ho, hb⟩ := hrel
        have hsz := hb.size
        by_cases hlt : j < n
        · have hMk : Hid (mcells (insM M k X) (j + 1 + 1) = mcells (insM M k X) (j + 1) ++ (M j).vals) := by
            show _ = _
            rw [mcells]; unfold insM; rw [if_neg (by omega), if_neg (by omega)]; rfl
          rcases ha2 with h0 | ⟨b1, o1, rfl, hc1⟩
          · omega
          obtain ⟨g0, g1, g2, g3⟩ := hc1 j (by omega)
          have g0 := kcell hb g0
          have g1 := kcell hb g1
          have g2 := kcell hb g2
          have g3 := kcell hb g3
          clear hc1
          go_wp2_with (at_builtin; refine wpList_append_fits _ rfl _ _ 23 rfl w2.heap.size 26 i26 4 Try.underlying23 hi26 hy1 w2.heap.size (j + 1) (n + 1) _ rfl (ho.alloc _) ⟨wr.heap.size, 0, none⟩ 1 1 (M j).vals rfl rfl (cell_four_new _ _ _ _ _ _) (vals_oneCell _) (by omega) ?_; intro w4 ho4 hg4)
          have hb4 : Below w2.heap.size w2 w4 := (hb.alloc hsz _).grown hg4 (by simp; omega) (fun k hk => by cases hk; exact Nat.le_refl _)
          rw [← hMk.out] at ho4
          clear ho hg4 hb g0 g1 g2 g3
          go_wp2
          go_roundw
          case rel => exact ⟨j + 1, by omega, by omega, by go_num, rfl, ho4, hb4⟩
          case measure => simp [intOf]; omega
        · obtain rfl : j = n := by omega
          have hI := MRow.of_mcells ho
          have ha3 := ha2.kept hb
          have hp3 := hp2.kept hb
          have hX3 := hX2.kept hb
          have hb3 := below_then hb2 hb
          clear ho hb hlt ha2 hp2 hX2 hb2 hsz
          generalize wr = w3 at *
          go_wp2_with fail
          refine (membership_any _ _ _ _ _ _ _ _ (insM M k X) U _ (by omega) (by omega) hI hp3 (fun h => by cases h) hbn).mono ?_
          rintro e w4 ⟨a4, c4, p4, m4, d4, rfl, hM4, hb4⟩
          have ha4 := ha3.kept hb4
          have hp4 := hp3.kept hb4
          have hX4 := hX3.kept hb4
          have hb4 := below_then hb3 hb4
          clear ha3 hp3 hX3 hb3 hI
          go_wp2_with fail
          refine (voters_any _ _ _ _ _ _ _ _ (insM M k X) _ (by omega) hM4).mono ?_
          rintro e w5 ⟨v5, rfl, hown5, hb5⟩
          obtain ⟨aoW, capW, rfl, hlW, hmW, hUW⟩ := URow.of_owns hown5
          have ha5 := ha4.kept hb5
          have hp5 := hp4.kept hb5
          have hX5 := hX4.kept hb5
          have hb5 := below_then hb4 hb5
          clear ha4 hp4 hX4 hb4 hown5 hlW hM4
          go_wp2_with fail
          refine (membership_any _ _ _ _ _ _ _ _ M U _ (by omega) (by omega) ha5 hp5 han hbn).mono ?_
          rintro e w6 ⟨a6, c6, p6, m6, d6, rfl, hM6, hb6⟩
          have ha6 := ha5.kept hb6
          have hp6 := hp5.kept hb6
          have hX6 := hX5.kept hb6
          have hUW := hUW.kept hb6
          have hb6 := below_then hb5 hb6
          clear ha5 hp5 hX5 hb5
          go_wp2_with fail
          refine (voters_any _ _ _ _ _ _ _ _ M _ (by omega) hM6).mono ?_
          rintro e w7 ⟨v7, rfl, hown7, hb7⟩
          obtain ⟨aoP, capP, rfl, hlP, hmP, hUP⟩ := URow.of_owns hown7
          have ha7 := ha6.kept hb7
          have hp7 := hp6.kept hb7
          have hX7 := hX6.kept hb7
          have hUW := hUW.kept hb7
          have hb7 := below_then hb6 hb7
          clear ha6 hp6 hX6 hb6 hown7 hlP hM6
          go_wp2_with fail
          refine (membership_any _ _ _ _ _ _ _ _ M U _ (by omega) (by omega) (ha7.head hpn) hp7 (han.head hpn) hbn).mono ?_
          rintro e w8 ⟨a8, c8, p8, m8, d8, rfl, hM8, hc8⟩
          have ha8 := ha7.kept hc8
          have hp8 := hp7.kept hc8
          have hX8 := hX7.kept hc8
          have hUW8 := hUW.kept hc8
          have hUP8 := hUP.kept hc8
          have hb8 := below_then hb7 hc8
          clear ha7 hp7 hX7 hb7 hUW hUP hc8
          go_wp2_with fail
          refine (voters_any _ _ _ _ _ _ _ _ M _ (by omega) hM8).mono ?_
          rintro e w9 ⟨v9, rfl, hown9, hc9⟩
          obtain ⟨aoL, capL, rfl, hlL, hmL, hUL⟩ := URow.of_owns hown9
          have ha9 := ha8.kept hc9
          have hp9 := hp8.kept hc9
          have hX9 := hX8.kept hc9
          have hUW9 := hUW8.kept hc9
          have hUP9 := hUP8.kept hc9
          have hb9 := below_then hb8 hc9
          clear ha8 hp8 hX8 hb8 hUW8 hUP8 hc9 hown9 hlL hM8
          have haT := ha9.tail hpn hnc
          have hanT := NilOk.tail (c := c) (p := k) han
          go_upto_region 20 with fail
          go_cut [19] (fun v wr => ∃ aoR capR, v = .slice aoR (vot (shiftM M k) (j - k)).length capR ∧ (vot (shiftM M k) (j - k)).length ≤ maxLen ∧ URow wr aoR (vot (shiftM M k) (j - k)).length (fun i => (vot (shiftM M k) (j - k)).getD i 0) ∧ XBox wr w.heap.size X ∧
              URow wr aoW (vot (insM M k X) (j + 1)).length (fun i => (vot (insM M k X) (j + 1)).getD i 0) ∧ URow wr aoP (vot M j).length (fun i => (vot M j).getD i 0) ∧ URow wr aoL (vot M k).length (fun i => (vot M k).getD i 0) ∧ Below w.heap.size w wr)
          case first =>
            by_cases hck : c = k
            · rw [if_pos hck] at haT hanT
              subst hck
              have e0 : Hid (j - c = 0) := by show j - c = 0; omega
              go_wp2_with fail
              refine (membership_any _ _ _ _ 0 _ _ _ (shiftM M c) U _ (by omega) (by omega) (.inl rfl) hp9 (fun _ => rfl) hbn).mono ?_
              rintro e w10 ⟨a10, c10, p10, m10, d10, rfl, hM10, hc10⟩
              go_wp2_with fail
              refine (voters_any _ _ _ _ 0 _ _ _ (shiftM M c) _ (by omega) hM10).mono ?_
              rintro e w11 ⟨v11, rfl, hown11, hc11⟩
              obtain ⟨aoR, capR, rfl, hlR, hmR, hUR⟩ := URow.of_owns hown11
              have hc12 := below_then hc10 hc11
              have hb12 := below_then hb9 hc12
              clear hlR hown11 hM10
              go_wp2
              go_meet
              case rel => exact ⟨aoR, capR, by rw [e0.out], by rw [e0.out]; exact hmR, by rw [e0.out]; exact hUR, hX9.kept hc12, hUW9.kept hc12, hUP9.kept hc12, hUL.kept hc12, hb12⟩
            · rw [if_neg hck] at haT hanT
              go_wp2_with fail
              refine (membership_any _ _ _ _ _ _ _ _ (shiftM M k) U _ (by omega) (by omega) haT hp9 hanT hbn).mono ?_
              rintro e w10 ⟨a10, c10, p10, m10, d10, rfl, hM10, hc10⟩
              go_wp2_with fail
              refine (voters_any _ _ _ _ _ _ _ _ (shiftM M k) _ (by omega) hM10).mono ?_
              rintro e w11 ⟨v11, rfl, hown11, hc11⟩
              obtain ⟨aoR, capR, rfl, hlR, hmR, hUR⟩ := URow.of_owns hown11
              have hc12 := below_then hc10 hc11
              have hb12 := below_then hb9 hc12
              clear hlR hown11 hM10
              go_wp2
              go_meet
              case rel => exact ⟨aoR, capR, rfl, hmR, hUR, hX9.kept hc12, hUW9.kept hc12, hUP9.kept hc12, hUL.kept hc12, hb12⟩
          case rest =>
            obtain ⟨aoR, capR, rfl, hmR, hUR, hXc, hUW2, hUP2, hUL2, hbc⟩ := hcut
            generalize wc = wz at *
            have hWeq : Hid (vot (insM M k X) (j + 1) = (vot M k ++ oneV X) ++ vot (shiftM M k) (j - k)) := vot_ins hpn
            have hPeq : Hid (vot M j = vot M k ++ vot (shiftM M k) (j - k)) := vot_plain hpn
            have hLl : (vot M k).length ≤ 26214 := Nat.le_trans (vot_le M k) (by omega)
            have hRl : (vot (shiftM M k) (j - k)).length ≤ 26214 := Nat.le_trans (vot_le _ _) (by omega)
            clear hUL hUW9 hUP9 hX9 hp9 ha9 haT hanT hb9 hmR hmL
            generalize vot M k = L at *
            generalize vot (shiftM M k) (j - k) = R at *
            generalize vot (insM M k X) (j + 1) = Wl at *
            generalize vot M j = Pl at *
            go_wp2_with (first | (at_make; refine wpList_make_own _ rfl (.const (.int .i64 0)) (.tmp 111) 24 rfl wz.heap.size 22 i22 _ 1 Try.underlying24 hi22 hz0 hz1 .i64 .i64 _ (L.length + R.length + 1) rfl rfl (by omega) (by rw [hz2]; omega) (by unfold maxLen; omega) (Nat.le_refl _) ?_; intro w13 ho13 hg13) | (at_make; refine wpList_make_own _ rfl (.const (.int .i64 0)) (.tmp 117) 24 rfl wz.heap.size 22 i22 _ 1 Try.underlying24 hi22 hz0 hz1 .i64 .i64 _ (L.length + R.length) rfl rfl (by omega) (by rw [hz2]; omega) (by unfold maxLen; omega) hg13.size ?_; intro w14 ho14 hg14))
            have h12 : wz.heap.size < w13.heap.size := (ho13.lt _ rfl).2
            have ho13 := ho13.kept hg14 (.inr (by simp [Value.ownBlock]))
            have hb14 : Below wz.heap.size wz w14 := ((Below.refl _ _).grown hg13 (Nat.le_refl _) (fun _ h => by cases h)).grown hg14 hg13.size (fun _ h => by cases h)
            clear hg13 hg14
            generalize hg2 : w13.heap.size = g2 at *
            have Hg2 : Hid (w13.heap.size = g2) := hg2
            clear hg2
            go_loopw [20, 21, 22] (fun ve vj i wr => ∃ q : Nat, q ≤ L.length ∧ i = .int .i64 q ∧ ve = .slice (some ⟨wz.heap.size, 0, none⟩) q (L.length + R.length + 1) ∧ vj = .slice (some ⟨g2, 0, none⟩) q (L.length + R.length) ∧
                wr.ownsRow wz.heap.size 22 1 (.slice (some ⟨wz.heap.size, 0, none⟩) q (L.length + R.length + 1)) q ((L.take q).map (Value.int .u64)) ∧ wr.ownsRow wz.heap.size 22 1 (.slice (some ⟨g2, 0, none⟩) q (L.length + R.length)) q ((L.take q).map (Value.int .u64)) ∧ Below wz.heap.size wz wr) (fun _ _ i _ => L.length - (intOf i).toNat)
            case atStart => exact ⟨0, Nat.zero_le _, rfl, rfl, rfl, ho13, ho14, hb14⟩
            case round =>
              clear ho13 ho14 hb14
              obtain ⟨q, hq, rfl, rfl, rfl, hoE, hoJ, hb⟩ := hrel
              have hsz := hb.size
              by_cases hlt : q < L.length
              · obtain ⟨bL, oL, rfl, gL⟩ := (hUL2.kept hb).at hlt
                obtain ⟨bL', oL', e1, gL'⟩ := hUL2.at hlt
                obtain ⟨rfl, rfl⟩ : bL = bL' ∧ oL = oL' := by simpa using e1
                obtain ⟨xq, hxq⟩ : ∃ xq, Hid (L.getD q 0 = xq) := ⟨_, rfl⟩
                rw [hxq.out] at gL gL'
                have htk := take_one_more L q hlt xq hxq.out
                have HT : Hid ((L.take (q + 1)).map (Value.int .u64) = (L.take q).map (Value.int .u64) ++ [.int .u64 xq]) := htk
                clear htk hUL2 e1
                go_wp2_with (first | (at_builtin; refine wpList_append_fits _ rfl (.tmp 125) (.tmp 130) 24 rfl wz.heap.size 22 i22 1 Try.underlying24 hi22 hz1 wz.heap.size q _ _ rfl (hoE.alloc _) ⟨wr.heap.size, 0, none⟩ 1 1 [.int .u64 xq] rfl rfl (cell_one_fresh _ _ _) (num_oneCell _) (by omega) ?_; intro w15 hoE15 hg15; have hb15 : Below wz.heap.size wz w15 := (hb.alloc hsz _).grown hg15 (by simp; omega) (fun k hk => by cases hk; exact Nat.le_refl _); have hoJ15 := (hoJ.alloc _).kept hg15 (.inr (by simp [Value.ownBlock]; omega)); have g15 := kcell hb15 gL'; have hsz15 := hb15.size) | (at_builtin; refine wpList_append_fits _ rfl (.tmp 132) (.tmp 137) 24 rfl wz.heap.size 22 i22 1 Try.underlying24 hi22 hz1 g2 q _ _ rfl (hoJ15.alloc _) ⟨w15.heap.size, 0, none⟩ 1 1 [.int .u64 xq] rfl rfl (cell_one_fresh _ _ _) (num_oneCell _) (by omega) ?_; intro w16 hoJ16 hg16; have hb16 : Below wz.heap.size wz w16 := (hb15.alloc hsz15 _).grown hg16 (by simp; omega) (fun k hk => by cases hk; omega); have hoE16 := (hoE15.alloc _).kept hg16 (.inr (by simp [Value.ownBlock]; omega))))
                rw [← HT.out] at hoE16 hoJ16
                go_roundw
                case rel => exact ⟨q + 1, by omega, by go_num, rfl, rfl, hoE16, hoJ16, hb16⟩
                case measure => simp [intOf]; omega
              · obtain rfl : q = L.length := by omega
                rw [List.take_length] at hoE hoJ
                obtain ⟨x0, x1, x2, x3⟩ := hXc.kept hb
                have hOl : (oneV X).length ≤ 1 := by unfold oneV; split <;> simp
                clear hUL2 hlt hXc
                go_upto_if 141 with fail
                go_cut [20] (fun v wx => v = .slice (some ⟨wz.heap.size, 0, none⟩) (L.length + (oneV X).length) (L.length + R.length + 1) ∧ wx.ownsRow wz.heap.size 22 1 (.slice (some ⟨wz.heap.size, 0, none⟩) (L.length + (oneV X).length) (L.length + R.length + 1)) (L.length + (oneV X).length) ((L ++ oneV X).map (Value.int .u64)) ∧
                    wx.ownsRow wz.heap.size 22 1 (.slice (some ⟨g2, 0, none⟩) L.length (L.length + R.length)) L.length (L.map (Value.int .u64)) ∧ Below wz.heap.size wz wx)
                case first =>
                  obtain ⟨xi, xa, xn, xl⟩ := X
                  cases xl
                  · have hO : Hid (oneV ⟨xi, xa, xn, false⟩ = [xi]) := rfl
                    go_wp2_with (at_builtin; refine wpList_append_fits _ rfl (.tmp 142) (.tmp 145) 24 rfl wz.heap.size 22 i22 1 Try.underlying24 hi22 hz1 wz.heap.size L.length _ _ rfl (hoE.alloc _) ⟨wr.heap.size, 0, none⟩ 1 1 [.int .u64 xi] rfl rfl (cell_one_fresh _ _ _) (num_oneCell _) (by omega) ?_; intro w15 hoE15 hg15; have hb15 : Below wz.heap.size wz w15 := (hb.alloc hsz _).grown hg15 (by simp; omega) (fun k hk => by cases hk; exact Nat.le_refl _); have hoJ15 := (hoJ.alloc _).kept hg15 (.inr (by simp [Value.ownBlock]; omega)))
                    go_meet
                    case rel => exact ⟨by rw [hO.out]; rfl, by rw [hO.out, List.map_append]; exact hoE15, hoJ15, hb15⟩
                  · have hO : Hid (oneV ⟨xi, xa, xn, true⟩ = []) := rfl
                    go_wp2
                    go_meet
                    case rel => exact ⟨by rw [hO.out]; rfl, by rw [hO.out, List.append_nil]; exact hoE, hoJ, hb⟩
                case rest =>
                  obtain ⟨rfl, hoE2, hoJ2, hb2⟩ := hcut
                  clear x0 x1 x2 x3 hoE hoJ hb
                  generalize oneV X = O at *
                  go_wp2_with fail
                  go_loopw [20, 21, 23] (fun ve vj i wr => ∃ q : Nat, q ≤ R.length ∧ i = .int .i64 q ∧ ve = .slice (some ⟨wz.heap.size, 0, none⟩) (L.length + O.length + q) (L.length + R.length + 1) ∧ vj = .slice (some ⟨g2, 0, none⟩) (L.length + q) (L.length + R.length) ∧
                      wr.ownsRow wz.heap.size 22 1 (.slice (some ⟨wz.heap.size, 0, none⟩) (L.length + O.length + q) (L.length + R.length + 1)) (L.length + O.length + q) ((L ++ O).map (Value.int .u64) ++ (R.take q).map (Value.int .u64)) ∧ wr.ownsRow wz.heap.size 22 1 (.slice (some ⟨g2, 0, none⟩) (L.length + q) (L.length + R.length)) (L.length + q) (L.map (Value.int .u64) ++ (R.take q).map (Value.int .u64)) ∧ Below wz.heap.size wz wr) (fun _ _ i _ => R.length - (intOf i).toNat)
                  case atStart => exact ⟨0, Nat.zero_le _, rfl, rfl, rfl, by simpa using hoE2, by simpa using hoJ2, hb2⟩
                  case round =>
                    clear hoE2 hoJ2 hb2
                    obtain ⟨q, hq, rfl, rfl, rfl, hoE, hoJ, hb⟩ := hrel
                    have hsz := hb.size
                    by_cases hlt : q < R.length
                    · obtain ⟨bL, oL, rfl, gL⟩ := (hUR.kept hb).at hlt
                      obtain ⟨bL', oL', e1, gL'⟩ := hUR.at hlt
                      obtain ⟨rfl, rfl⟩ : bL = bL' ∧ oL = oL' := by simpa using e1
                      obtain ⟨xq, hxq⟩ : ∃ xq, Hid (R.getD q 0 = xq) := ⟨_, rfl⟩
                      rw [hxq.out] at gL gL'
                      have htk := take_one_more R q hlt xq hxq.out
                      have HT : Hid ((R.take (q + 1)).map (Value.int .u64) = (R.take q).map (Value.int .u64) ++ [.int .u64 xq]) := htk
                      clear htk hUR e1
                      go_wp2_with (first | (at_builtin; refine wpList_append_fits _ rfl (.tmp 153) (.tmp 158) 24 rfl wz.heap.size 22 i22 1 Try.underlying24 hi22 hz1 wz.heap.size (L.length + O.length + q) _ _ rfl (hoE.alloc _) ⟨wr.heap.size, 0, none⟩ 1 1 [.int .u64 xq] rfl rfl (cell_one_fresh _ _ _) (num_oneCell _) (by omega) ?_; intro w15 hoE15 hg15; have hb15 : Below wz.heap.size wz w15 := (hb.alloc hsz _).grown hg15 (by simp; omega) (fun k hk => by cases hk; exact Nat.le_refl _); have hoJ15 := (hoJ.alloc _).kept hg15 (.inr (by simp [Value.ownBlock]; omega)); have g15 := kcell hb15 gL'; have hsz15 := hb15.size) | (at_builtin; refine wpList_append_fits _ rfl (.tmp 160) (.tmp 165) 24 rfl wz.heap.size 22 i22 1 Try.underlying24 hi22 hz1 g2 (L.length + q) _ _ rfl (hoJ15.alloc _) ⟨w15.heap.size, 0, none⟩ 1 1 [.int .u64 xq] rfl rfl (cell_one_fresh _ _ _) (num_oneCell _) (by omega) ?_; intro w16 hoJ16 hg16; have hb16 : Below wz.heap.size wz w16 := (hb15.alloc hsz15 _).grown hg16 (by simp; omega) (fun k hk => by cases hk; omega); have hoE16 := (hoE15.alloc _).kept hg16 (.inr (by simp [Value.ownBlock]; omega))))
                      rw [List.append_assoc, ← HT.out] at hoE16 hoJ16
                      go_roundw
                      case rel => exact ⟨q + 1, by omega, by go_num, rfl, rfl, hoE16, hoJ16, hb16⟩
                      case measure => simp [intOf]; omega
                    · obtain rfl : q = R.length := by omega
                      rw [List.take_length, ← List.map_append] at hoE hoJ
                      have hUE := URow.of_own hoE
                      have hUJ := URow.of_own hoJ
                      have hUW3 := hUW2.kept hb
                      have hUP3 := hUP2.kept hb
                      have hl1 : Hid (Wl.length = L.length + O.length + R.length) := by show _ = _; rw [hWeq.out, List.length_append, List.length_append]
                      have hl2 : Hid (Pl.length = L.length + R.length) := by show _ = _; rw [hPeq.out, List.length_append]
                      have hb3 := below_then hbc hb
                      clear hoE hoJ hb hlt hUR hUW2 hUP2 hsz
                      go_wp2_with fail
                      refine (equ_two _ _ _ _ _ _ Wl _ _ hmW hUW3 hUE hl1 hWeq).mono ?_
                      rintro e w20 ⟨rfl, hb20⟩
                      go_wp2_with fail
                      refine (equ_two _ _ _ _ _ _ Pl _ _ hmP (hUP3.kept hb20) (hUJ.kept hb20) hl2 hPeq).mono ?_
                      rintro e w21 ⟨rfl, hb21⟩
                      go_wp2
                      go_ret
                      exact ⟨rfl, below_then (below_then hb3 hb20) hb21⟩
end Go.Proofs.Qxb6617302a

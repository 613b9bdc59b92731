/-
  The law's helpers: zzBytes, zzLineAt, zzNumAt, zzSameBytes.
-/
import Derived.Test.Qxb6618380aNumber
namespace Go.Proofs.Qxb6618380a
open Go.RowKit

set_option maxHeartbeats 1000000 in
theorem bytes_any (a b : Option Addr) (n c m d : Nat) (L M : Nat → Ln) (w : World) (hn : n ≤ maxLen) (hm : m ≤ maxLen) (ha : LRow w a n L) (hb : LRow w b m M) :
   Calls Try.prog 4 #[.slice a n c, .slice b m d] w fun e w' => (e = .returned (.bool true) ∨ e = .returned (.bool false)) ∧ w' = w := by
  unfold maxLen at hn hm
  by_cases hl : n ≤ 1048576
  · go_enter Try.func4, Try.ntmps4
    go_wp2
    go_loop [5, 6] (fun z i => ∃ k : Nat, k ≤ n ∧ i = .int .i64 k ∧ ∃ t : Int, z = .int .i64 t ∧ 0 ≤ t ∧ t ≤ 1048576) (fun _ i => n - (intOf i).toNat)
    case atStart => exact ⟨0, Nat.zero_le _, rfl, n, rfl, by omega, by omega⟩
    case round =>
      obtain ⟨k, hk, rfl, t, rfl, ht0, ht1⟩ := hrel
      by_cases hlt : k < n
      · obtain ⟨b1, o1, rfl, g0, gl⟩ := ha.at hlt
        have gm := gl.max
        unfold maxLen at gm
        go_wp2
        · go_ret
          exact ⟨.inr rfl, rfl⟩
        · go_ret
          exact ⟨.inr rfl, rfl⟩
        · go_round
          case rel => exact ⟨k + 1, by omega, by go_num, _, rfl, by omega, by omega⟩
          case measure => simp [intOf]; omega
      · go_wp2
        · go_ret
          exact ⟨.inr rfl, rfl⟩
        · go_ret
          exact ⟨.inr rfl, rfl⟩
        · go_loop [5, 7] (fun z i => ∃ k : Nat, k ≤ m ∧ i = .int .i64 k ∧ ∃ t : Int, z = .int .i64 t ∧ 0 ≤ t ∧ t ≤ 1048576) (fun _ i => m - (intOf i).toNat)
          case atStart => exact ⟨0, Nat.zero_le _, rfl, _, rfl, by omega, by omega⟩
          case round =>
            obtain ⟨k, hk, rfl, t, rfl, ht0, ht1⟩ := hrel
            by_cases hlt : k < m
            · obtain ⟨b1, o1, rfl, g0, gl⟩ := hb.at hlt
              have gm := gl.max
              unfold maxLen at gm
              go_wp2
              · go_ret
                exact ⟨.inr rfl, rfl⟩
              · go_ret
                exact ⟨.inr rfl, rfl⟩
              · go_round
                case rel => exact ⟨k + 1, by omega, by go_num, _, rfl, by omega, by omega⟩
                case measure => simp [intOf]; omega
            · go_wp2
              go_ret
              exact ⟨.inl rfl, rfl⟩
  · go_enter Try.func4, Try.ntmps4
    go_wp2
    go_ret
    exact ⟨.inr rfl, rfl⟩

/-- The p-th line of two rows, one behind the other. -/
def lineOf (n : Nat) (L M : Nat → Ln) (p : Nat) : Ln := if p < n then L p else M (p - n)
theorem lineOf_left {n : Nat} {L M : Nat → Ln} {p : Nat} (h : p < n) : lineOf n L M p = L p := if_pos h
theorem lineOf_right {n : Nat} {L M : Nat → Ln} {p : Nat} (h : ¬ p < n) : lineOf n L M p = M (p - n) := if_neg h

theorem line_any (a b : Option Addr) (n c m d p : Nat) (L M : Nat → Ln) (w : World) (_hn : n ≤ 65536) (hm : m ≤ 65536) (ha : LRow w a n L) (hb : LRow w b m M) (hp : p < n + m) :
   Calls Try.prog 6 #[.slice a n c, .slice b m d, .int .i64 p] w fun e w' => e = .returned (.slice (lineOf n L M p).ao (lineOf n L M p).len (lineOf n L M p).cap) ∧ w' = w := by
  by_cases hlt : p < n
  · rw [lineOf_left hlt]
    obtain ⟨b1, o1, rfl, g0, gl⟩ := ha.at hlt
    clear gl
    go_enter Try.func6, Try.ntmps6
    go_wp2
    go_ret
    exact ⟨rfl, rfl⟩
  · rw [lineOf_right hlt]
    obtain ⟨j, rfl⟩ : ∃ j, p = n + j := ⟨p - n, by omega⟩
    rw [show n + j - n = j by omega]
    obtain ⟨b1, o1, rfl, g0, gl⟩ := hb.at (show j < m by omega)
    clear gl
    have e1 : (((n + j : Nat) : Int) - (n : Int)) = (j : Int) := by omega
    go_enter Try.func6, Try.ntmps6
    go_wp2
    go_ret
    exact ⟨rfl, rfl⟩

theorem numAt_left (a b : Option Addr) (n c m d p : Nat) (U : Nat → Int) (w : World) (_hn : n ≤ 65536) (ha : IRow w a n U) (hp : p < n) :
   Calls Try.prog 7 #[.slice a n c, .slice b m d, .int .i64 n, .int .i64 p] w fun e w' => e = .returned (.int .i64 (U p)) ∧ w' = w := by
  obtain ⟨b1, o1, rfl, g0⟩ := ha.at hp
  go_enter Try.func7, Try.ntmps7
  go_wp2
  go_ret
  exact ⟨rfl, rfl⟩
theorem numAt_right (a b : Option Addr) (n c m d j : Nat) (U : Nat → Int) (w : World) (_hn : n ≤ 65536) (hm : m ≤ 65536) (hb : IRow w b m U) (hj : j < m) :
   Calls Try.prog 7 #[.slice a n c, .slice b m d, .int .i64 n, .int .i64 (n + j : Nat)] w fun e w' => e = .returned (.int .i64 (U j)) ∧ w' = w := by
  obtain ⟨b1, o1, rfl, g0⟩ := hb.at hj
  have e1 : (((n + j : Nat) : Int) - (n : Int)) = (j : Int) := by omega
  go_enter Try.func7, Try.ntmps7
  go_wp2
  go_ret
  exact ⟨rfl, rfl⟩

/-- zzSameBytes at two lines. -/
theorem same_any (x y : Ln) (w : World) (hx : LnOk w x) (hy : LnOk w y) :
   Calls Try.prog 8 #[.slice x.ao x.len x.cap, .slice y.ao y.len y.cap] w fun e w' => e = .returned (.bool (decide (x.bs = y.bs))) ∧ Below w.heap.size w w' := by
  obtain ⟨ax, nx, cx, bx⟩ := x
  obtain ⟨ay, ny, cy, cb⟩ := y
  have lx := hx.long
  have ly := hy.long
  have ccx := hx.cell
  have ccy := hy.cell
  have hxm := hx.max
  have hym := hy.max
  unfold maxLen at hxm hym
  clear hx hy
  dsimp only at *
  by_cases hl : nx = ny
  · subst hl
    go_enter Try.func8, Try.ntmps8
    go_wp2
    go_loopw [5] (fun i wr => ∃ k : Nat, k ≤ nx ∧ i = .int .i64 k ∧ (∀ j, j < k → bx.getD j 0 = cb.getD j 0) ∧ ∃ q, wr = w.drewN q) (fun i _ => nx - (intOf i).toNat)
    case atStart => exact ⟨0, Nat.zero_le _, rfl, fun _ h => absurd h (Nat.not_lt_zero _), 0, rfl⟩
    case round =>
      obtain ⟨k, hk, rfl, heq, q, rfl⟩ := hrel
      have HEQ : Hid (∀ j, j < k → bx.getD j 0 = cb.getD j 0) := heq
      clear heq
      by_cases hlt : k < nx
      · rcases ccx with h0 | ⟨b1, o1, rfl, hc1⟩
        · omega
        rcases ccy with h0 | ⟨b2, o2, rfl, hc2⟩
        · omega
        have g1 := hc1 k hlt
        have g2 := hc2 k hlt
        clear hc1 hc2
        obtain ⟨u, hu⟩ : ∃ u, Hid (bx.getD k 0 = u) := ⟨_, rfl⟩
        obtain ⟨v, hv⟩ : ∃ v, Hid (cb.getD k 0 = v) := ⟨_, rfl⟩
        rw [hu.out] at g1
        rw [hv.out] at g2
        by_cases huv : u = v
        · subst huv
          have hne : (u != u) = false := by simp
          go_wp2
          go_quiet (fail)
          go_wp2
          go_roundw
          case rel =>
            refine ⟨k + 1, by omega, by go_num, fun j hj => ?_, _, rfl⟩
            by_cases hjk : j = k
            · subst hjk; rw [hu.out, hv.out]
            · exact HEQ.out j (by omega)
          case measure => simp [intOf]; omega
        · have hne : (u != v) = true := by simpa using huv
          have hfin : decide (bx = cb) = false := by
            rw [decide_eq_false_iff_not]
            intro e
            rw [e, hv.out] at hu
            exact huv hu.out.symm
          have HFIN : Hid (decide (bx = cb) = false) := hfin
          clear hfin
          go_wp2
          go_quiet (fail)
          go_wp2
          go_ret
          exact ⟨ret_bool HFIN.out.symm, below_drewN (below_drewN (Below.refl _ _) _) _⟩
      · obtain rfl : k = nx := by omega
        have hfin : decide (bx = cb) = true := by
          rw [decide_eq_true_iff]
          refine List.ext_getElem (by omega) fun i h1 h2 => ?_
          have := HEQ.out i (by omega)
          simpa [List.getD, List.getElem?_eq_getElem h1, List.getElem?_eq_getElem h2] using this
        have HFIN : Hid (decide (bx = cb) = true) := hfin
        clear hfin
        go_wp2
        go_ret
        exact ⟨ret_bool HFIN.out.symm, below_drewN (Below.refl _ _) _⟩
  · have hfin : decide (bx = cb) = false := by
      rw [decide_eq_false_iff_not]
      intro e
      rw [e] at lx
      exact hl (lx.symm.trans ly)
    rw [hfin]
    go_enter Try.func8, Try.ntmps8
    go_wp2
    go_ret
    exact ⟨rfl, Below.refl _ _⟩
end Go.Proofs.Qxb6618380a

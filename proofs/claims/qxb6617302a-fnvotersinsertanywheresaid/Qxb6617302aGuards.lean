/-
  The guards of the two laws on voters, and zzEqU64.
-/
import Derived.Test.Qxb6617302aBase
namespace Go.Proofs.Qxb6617302a
open Go.RowKit

/-- zzEqU64 at two slices that hold the same. -/
theorem equ_any (a b : Option Addr) (n c d : Nat) (U V : Nat → Int) (w : World) (hn : n ≤ maxLen) (ha : URow w a n U) (hb : URow w b n V) (hUV : ∀ i, i < n → U i = V i) :
   Calls Try.prog 13 #[.slice a n c, .slice b n d] w fun e w' => e = .returned (.bool true) ∧ Below w.heap.size w w' := by
  unfold maxLen at hn
  have HUV : Hid (∀ i, i < n → U i = V i) := hUV
  clear hUV
  go_enter Try.func13, Try.ntmps13
  go_wp2
  go_loopw [5] (fun i wr => ∃ k : Nat, k ≤ n ∧ i = .int .i64 k ∧ ∃ q, wr = w.drewN q) (fun i _ => n - (intOf i).toNat)
  case atStart => exact ⟨0, Nat.zero_le _, rfl, 0, rfl⟩
  case round =>
    obtain ⟨k, hk, rfl, q, rfl⟩ := hrel
    by_cases hlt : k < n
    · rcases ha with h0 | ⟨b1, o1, rfl, hc1⟩
      · omega
      rcases hb with h0 | ⟨b2, o2, rfl, hc2⟩
      · omega
      have g1 := hc1 k hlt
      have g2 := hc2 k hlt
      rw [HUV.out k hlt] at g1
      clear hc1 hc2
      have hne : (V k != V k) = false := by simp
      go_wp2
      go_quiet (fail)
      go_wp2
      go_roundw
      case rel => exact ⟨k + 1, by omega, by go_num, _, rfl⟩
      case measure => simp [intOf]; omega
    · go_wp2
      go_ret
      exact ⟨rfl, below_drewN (Below.refl _ _) _⟩

theorem bytes14_any (a b : Option Addr) (x y : Int) (n c m d : Nat) (M : Nat → Mb) (w : World) (hn : n ≤ maxLen) (hm : m ≤ maxLen) (ha : MRow w a n M) :
   Calls Try.prog 14 #[.int .u64 x, .int .u64 y, .slice a n c, .slice b m d] w fun e w' => (e = .returned (.bool true) ∨ e = .returned (.bool false)) ∧ w' = w := by
  unfold maxLen at hn hm
  by_cases hl : n ≤ 1048576
  · go_enter Try.func14, Try.ntmps14
    go_wp2
    go_loop [9, 10] (fun z i => ∃ k : Nat, k ≤ n ∧ i = .int .i64 k ∧ ∃ t : Int, z = .int .i64 t ∧ 0 ≤ t ∧ t ≤ 1048576) (fun _ i => n - (intOf i).toNat)
    case atStart => exact ⟨0, Nat.zero_le _, rfl, n, rfl, by omega, by omega⟩
    case round =>
      obtain ⟨k, hk, rfl, t, rfl, ht0, ht1⟩ := hrel
      by_cases hlt : k < n
      · rcases ha with h0 | ⟨b1, o1, rfl, hc1⟩
        · omega
        obtain ⟨g0, g1, g2, g3⟩ := hc1 k hlt
        go_wp2
        · go_ret
          exact ⟨.inr rfl, rfl⟩
        · go_ret
          exact ⟨.inr rfl, rfl⟩
        · go_round
          case rel => exact ⟨k + 1, by omega, by go_num, _, rfl, by omega, by omega⟩
          case measure => simp [intOf]; omega
      · go_wp2
        all_goals
          go_ret
          exact ⟨by simp, rfl⟩
  · go_enter Try.func14, Try.ntmps14
    go_wp2
    go_ret
    exact ⟨.inr rfl, rfl⟩

set_option maxHeartbeats 400000 in
theorem bytes9_any (a b : Option Addr) (x y z : Int) (n c m d : Nat) (M : Nat → Mb) (X : Mb) (w : World) (hn : n ≤ maxLen) (hm : m ≤ maxLen) (hX : X.addr.size ≤ maxLen) (ha : MRow w a n M) :
   Calls Try.prog 9 #[.int .u64 x, .int .u64 y, .slice a n c, .slice b m d, .int .i64 z, .agg #[.int .u64 X.id, .string X.addr, .int .u64 X.inc, .bool X.lrn]] w fun e w' => (e = .returned (.bool true) ∨ e = .returned (.bool false)) ∧ Below w.heap.size w w' := by
  unfold maxLen at hn hm hX
  have ha' : MRow (w.alloc (.cells #[.int .u64 X.id, .string X.addr, .int .u64 X.inc, .bool X.lrn] 26)) a n M := ha.kept ((Below.refl _ _).alloc (Nat.le_refl _) _)
  by_cases hl : n ≤ 1048576
  · go_enter Try.func9, Try.ntmps9
    go_wp2
    go_loop [13, 14] (fun z i => ∃ k : Nat, k ≤ n ∧ i = .int .i64 k ∧ ∃ t : Int, z = .int .i64 t ∧ 0 ≤ t ∧ t ≤ 1048576) (fun _ i => n - (intOf i).toNat)
    case atStart => exact ⟨0, Nat.zero_le _, rfl, n, rfl, by omega, by omega⟩
    case round =>
      obtain ⟨k, hk, rfl, t, rfl, ht0, ht1⟩ := hrel
      by_cases hlt : k < n
      · rcases ha' with h0 | ⟨b1, o1, rfl, hc1⟩
        · omega
        obtain ⟨g0, g1, g2, g3⟩ := hc1 k hlt
        clear hc1
        go_wp2
        · go_ret
          exact ⟨.inr rfl, (Below.refl _ _).alloc (Nat.le_refl _) _⟩
        · go_ret
          exact ⟨.inr rfl, (Below.refl _ _).alloc (Nat.le_refl _) _⟩
        · go_round
          case rel => exact ⟨k + 1, by omega, by go_num, _, rfl, by omega, by omega⟩
          case measure => simp [intOf]; omega
      · go_wp2
        all_goals
          go_ret
          exact ⟨by simp, (Below.refl _ _).alloc (Nat.le_refl _) _⟩
  · go_enter Try.func9, Try.ntmps9
    go_wp2
    go_ret
    exact ⟨.inr rfl, (Below.refl _ _).alloc (Nat.le_refl _) _⟩

/-- What zzMembersTooBig answers, as far as the laws need it. -/
def BigRet (n m : Nat) (e : Ending) : Prop := e = .returned (.bool true) ∨ (e = .returned (.bool false) ∧ n ≤ 26214 ∧ m ≤ 131072)
theorem BigRet.yes {n m : Nat} : BigRet n m (.returned (.bool true)) := .inl rfl
theorem BigRet.no {n m : Nat} (h1 : n ≤ 26214) (h2 : m ≤ 131072) : BigRet n m (.returned (.bool false)) := .inr ⟨rfl, h1, h2⟩

set_option maxHeartbeats 400000 in
theorem big_any (a b : Option Addr) (n c m d : Nat) (M : Nat → Mb) (X : Mb) (w : World) (hn : n ≤ maxLen) (hm : m ≤ maxLen) (hX : X.addr.size ≤ maxLen) (ha : MRow w a n M) :
   Calls Try.prog 10 #[.slice a n c, .slice b m d, .agg #[.int .u64 X.id, .string X.addr, .int .u64 X.inc, .bool X.lrn]] w fun e w' => BigRet n m e ∧ Below w.heap.size w w' := by
  unfold maxLen at hn hm hX
  have ha' : MRow (w.alloc (.cells #[.int .u64 X.id, .string X.addr, .int .u64 X.inc, .bool X.lrn] 26)) a n M := ha.kept ((Below.refl _ _).alloc (Nat.le_refl _) _)
  by_cases h1 : n ≤ 26214
  · by_cases h2 : m ≤ 131072
    · by_cases h3 : X.addr.size ≤ 1048576
      · by_cases h4 : (n : Int) * 40 + (m : Int) * 8 + 40 + (X.addr.size : Int) ≤ 1048576
        · have t3 : ((26214 < (n : Int) ∨ 131072 < (m : Int)) ∨ 1048576 < (X.addr.size : Int)) = False := by simp; omega
          go_enter Try.func10, Try.ntmps10
          go_wp2
          go_loop [7, 8] (fun z i => ∃ k : Nat, k ≤ n ∧ i = .int .i64 k ∧ ∃ t : Int, z = .int .i64 t ∧ 0 ≤ t ∧ t ≤ 1048576) (fun _ i => n - (intOf i).toNat)
          case atStart => exact ⟨0, Nat.zero_le _, rfl, _, rfl, by omega, by omega⟩
          case round =>
            obtain ⟨k, hk, rfl, t, rfl, ht0, ht1⟩ := hrel
            by_cases hlt : k < n
            · rcases ha' with h0 | ⟨b1, o1, rfl, hc1⟩
              · omega
              obtain ⟨g0, g1, g2, g3⟩ := hc1 k hlt
              clear hc1
              go_wp2
              · go_ret
                exact ⟨BigRet.yes, (Below.refl _ _).alloc (Nat.le_refl _) _⟩
              · go_ret
                exact ⟨BigRet.yes, (Below.refl _ _).alloc (Nat.le_refl _) _⟩
              · go_round
                case rel => exact ⟨k + 1, by omega, by go_num, _, rfl, by omega, by omega⟩
                case measure => simp [intOf]; omega
            · go_wp2
              go_ret
              exact ⟨BigRet.no h1 h2, (Below.refl _ _).alloc (Nat.le_refl _) _⟩
        · go_enter Try.func10, Try.ntmps10
          go_wp2
          all_goals
            go_ret
            exact ⟨BigRet.yes, (Below.refl _ _).alloc (Nat.le_refl _) _⟩
      · go_enter Try.func10, Try.ntmps10
        go_wp2
        all_goals
          go_ret
          exact ⟨BigRet.yes, (Below.refl _ _).alloc (Nat.le_refl _) _⟩
    · go_enter Try.func10, Try.ntmps10
      go_wp2
      all_goals
        go_ret
        exact ⟨BigRet.yes, (Below.refl _ _).alloc (Nat.le_refl _) _⟩
  · go_enter Try.func10, Try.ntmps10
    go_wp2
    all_goals
      go_ret
      exact ⟨BigRet.yes, (Below.refl _ _).alloc (Nat.le_refl _) _⟩
end Go.Proofs.Qxb6617302a

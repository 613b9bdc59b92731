/-
  Voters: the ids of the members that are no learners, in the members' order.
-/
import Derived.Test.Qxb6617302aBase
namespace Go.Proofs.Qxb6617302a
open Go.RowKit
theorem info22 : (Try.prog.info? 22).map (fun i => (i.zero, i.size, i.bytes)) = some (some (.int .u64 0), 1, 8) := by kernel_rfl
/-- The ids of the voters among the first k members. -/
def vot (M : Nat → Mb) : Nat → List Int
  | 0 => []
  | k + 1 => if (M k).lrn then vot M k else vot M k ++ [(M k).id]
theorem vot_le (M : Nat → Mb) : ∀ k, (vot M k).length ≤ k
  | 0 => by simp [vot]
  | k + 1 => by have := vot_le M k; unfold vot; split <;> simp <;> omega

set_option maxHeartbeats 400000 in
theorem voters_any (x y : Int) (a pb : Option Addr) (n c m d : Nat) (M : Nat → Mb) (w : World) (hn : n ≤ 1000000) (ha : MRow w a n M) :
   Calls Try.prog 12 #[.agg #[.int .u64 x, .int .u64 y, .slice a n c, .slice pb m d]] w fun e w' => ∃ v, e = .returned v ∧ w'.ownsRow w.heap.size 22 1 v (vot M n).length ((vot M n).map (Value.int .u64)) ∧ Below w.heap.size w w' := by
  obtain ⟨i0, hi, hz0, hz1, hz2⟩ := info_parts info22
  go_enter Try.func12, Try.ntmps12
  go_wp2
  go_loopw [3, 9] (fun v i wr => ∃ k : Nat, k ≤ n ∧ i = .int .i64 k ∧ wr.ownsRow (w.heap.size) 22 1 v (vot M k).length ((vot M k).map (Value.int .u64)) ∧ Below w.heap.size w wr) (fun _ i _ => n - (intOf i).toNat)
  case atStart => exact ⟨0, Nat.zero_le _, rfl, World.ownsRow_nil _ _ _ _, (Below.refl _ _).alloc (Nat.le_refl _) _⟩
  case round =>
    obtain ⟨k, hk, rfl, hown, hb⟩ := hrel
    by_cases hlt : k < n
    · rcases ha with h0 | ⟨b1, o1, rfl, hc1⟩
      · omega
      obtain ⟨g0, g1, g2, g3⟩ := hc1 k hlt
      have g0 := kcell hb g0
      have g1 := kcell hb g1
      have g2 := kcell hb g2
      have g3 := kcell hb g3
      have hsz := hb.size
      cases hL : (M k).lrn
      · rw [hL] at g3
        have hle := vot_le M k
        go_wp2_with (at_builtin; refine wpList_append_own _ rfl _ _ 24 rfl w.heap.size 22 i0 (.int .u64 0) 1 8 Try.underlying24 hi hz0 hz1 hz2 rfl (by decide) _ _ _ rfl ((hown.alloc _).alloc _) ⟨wr.heap.size + 1, 0, none⟩ 1 1 [.int .u64 (M k).id] rfl rfl ?c1 ?c2 ?c3 ?c4 ?c5 ?_)
        case c1 => 
          intro j u hj
          match j, hj with
          | 0, hj => simp at hj; subst hj; simp [Addr.add]
        case c2 => intro u hu; simp at hu; subst hu; rfl
        case c3 => unfold maxLen; omega
        case c4 => omega
        case c5 => simp; omega
        intro v' w1 hown' hgrow _
        have hb1 : Below w.heap.size w w1 := ((hb.alloc hsz _).alloc (by simp; omega) _).grown hgrow (by simp; omega) (fun k hk => ((hown.lt k hk).1))
        have hown2 : w1.ownsRow w.heap.size 22 1 v' (vot M (k+1)).length ((vot M (k+1)).map (Value.int .u64)) := by
          simpa [vot, hL] using hown'
        clear hown' hgrow hown hb g0 g1 g2 g3
        go_wp2
        go_roundw
        case rel => exact ⟨k + 1, by omega, by go_num, hown2, hb1⟩
        case measure => simp [intOf]; omega
      · rw [hL] at g3
        have hown2 : wr.ownsRow w.heap.size 22 1 u3 (vot M (k+1)).length ((vot M (k+1)).map (Value.int .u64)) := by
          simpa [vot, hL] using hown
        go_wp2
        go_roundw
        case rel => exact ⟨k + 1, by omega, by go_num, hown2.alloc _, hb.alloc hsz _⟩
        case measure => simp [intOf]; omega
    · have hkn : Hid (k = n) := by show k = n; omega
      go_wp2
      go_ret
      exact ⟨_, rfl, by rw [← hkn.out]; exact hown, hb⟩
end Go.Proofs.Qxb6617302a

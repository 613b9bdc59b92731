/-
  Rows of runs, as the laws read them; what an add keeps.
-/
import Derived.Test.Qxb6617302aScriptPlain
namespace Go.Proofs.Qxb6617302a
open Go.RowKit

theorem KeptBut.below {w w' : World} {bt B : Nat} {row : Option Nat} (h : KeptBut w w' bt row) (h1 : B ≤ bt) (h2 : ∀ k, row = some k → B ≤ k) (h3 : B ≤ w.heap.size) : Below B w w' :=
  ⟨h.os, h.tape, h.output, h.size, fun k hk => h.block k (by omega) (by omega) (fun e => by have := h2 k e.symm; omega)⟩

theorem TSt.below {w w' : World} {base bt B : Nat} {rv : Value} {R : List Rn} {hd : Int} (hT : TSt w base bt rv R hd) (h : KeptBut w w' bt rv.ownBlock) (h1 : B ≤ bt) (h2 : B ≤ base) (h3 : B ≤ w.heap.size) : Below B w w' :=
  h.below h1 (fun k hk => Nat.le_trans h2 (hT.own.lt k hk).1) h3

/-- The slice at 'ao' has n runs, G 0 .. G (n-1). -/
def RRow (w : World) (ao : Option Addr) (n : Nat) (G : Nat → Rn) : Prop :=
  n = 0 ∨ ∃ b off, ao = some ⟨b, off, none⟩ ∧ ∀ i, i < n → w.cell? ⟨b, off + i * 2, none⟩ = some (.int .u64 (G i).first) ∧ w.cell? ⟨b, off + i * 2 + 1, none⟩ = some (.int .u64 (G i).term)

theorem RRow.kept {w w' : World} {ao : Option Addr} {n : Nat} {G : Nat → Rn} (h : RRow w ao n G) (hb : Below w.heap.size w w') : RRow w' ao n G := by
  rcases h with h | ⟨b, off, h, hc⟩
  · exact .inl h
  · exact .inr ⟨b, off, h, fun i hi => ⟨kcell hb (hc i hi).1, kcell hb (hc i hi).2⟩⟩

theorem nth_get {R : List Rn} {i : Nat} (h : i < R.length) : nth R i = R[i] := by simp [nth, List.getD, List.getElem?_eq_getElem h]

/-- Runs that the call has built. -/
theorem own_runs {w : World} {base g cap : Nat} {R : List Rn} (h : w.ownsRow base 48 2 (.slice (some ⟨g, 0, none⟩) R.length cap) R.length (rcells R)) {i : Nat} (hi : i < R.length) :
    w.cell? ⟨g, i * 2, none⟩ = some (.int .u64 (nth R i).first) ∧ w.cell? ⟨g, i * 2 + 1, none⟩ = some (.int .u64 (nth R i).term) := by
  rw [h.cellAt _ (by omega), h.cellAt _ (by omega), rcells_first R i hi, rcells_term R i hi, nth_get hi]
  exact ⟨rfl, rfl⟩

theorem RRow.of_owns {w : World} {base : Nat} {rv : Value} {R : List Rn} (h : w.ownsRow base 48 2 rv R.length (rcells R)) :
    ∃ ao cap, rv = .slice ao R.length cap ∧ RRow w ao R.length (nth R) ∧ (R ≠ [] → ∃ g, ao = some ⟨g, 0, none⟩) := by
  rcases h.2 with ⟨hv, h0⟩ | ⟨g, cap, cur, hv, _⟩
  · exact ⟨none, 0, by rw [h0]; exact hv, .inl h0, fun hne => absurd (List.eq_nil_of_length_eq_zero h0) hne⟩
  · refine ⟨_, cap, hv, .inr ⟨g, 0, rfl, fun i hi => ?_⟩, fun _ => ⟨g, rfl⟩⟩
    rw [Nat.zero_add]
    rw [hv] at h
    exact own_runs h hi

theorem TSt.cells {w : World} {base bt : Nat} {rv : Value} {R : List Rn} {hd : Int} (hT : TSt w base bt rv R hd) :
    w.cell? ⟨bt, 0, none⟩ = some rv ∧ w.cell? ⟨bt, 1, none⟩ = some (.int .u64 hd) ∧ w.frozen? ⟨bt, 0, none⟩ = false ∧ w.frozen? ⟨bt, 1, none⟩ = false ∧ bt < w.heap.size := by
  have h := hT.box
  have c0 : w.cell? ⟨bt, 0, none⟩ = some rv := by simp [World.cell?, h]
  exact ⟨c0, by simp [World.cell?, h], by simp [World.frozen?, h], by simp [World.frozen?, h], World.block_lt_of_cell? w ⟨bt, 0, none⟩ c0⟩

theorem add_head {hd n : Int} (h0 : 0 ≤ hd) (h1 : 0 ≤ n) (h2 : hd + n ≤ 18446744073709551615) : addH hd n = hd + n := by unfold addH; omega

/-! ### The guards on length -/
theorem bytes15_any (a : Option Addr) (n c : Nat) (w : World) (hn : n ≤ maxLen) :
   Calls Try.prog 15 #[.slice a n c] w fun e w' => (e = .returned (.bool true) ∨ e = .returned (.bool false)) ∧ w' = w := by
  unfold maxLen at hn
  go_enter Try.func15, Try.ntmps15
  go_wp2
  all_goals
    go_ret
    exact ⟨by simp, rfl⟩

theorem bytes20_any (a : Option Addr) (n c : Nat) (x0 x1 x2 x3 : Int) (w : World) (hn : n ≤ maxLen) :
   Calls Try.prog 20 #[.slice a n c, .int .u64 x0, .int .u64 x1, .int .u64 x2, .int .u64 x3] w fun e w' => (e = .returned (.bool true) ∨ e = .returned (.bool false)) ∧ w' = w := by
  unfold maxLen at hn
  go_enter Try.func20, Try.ntmps20
  go_wp2
  all_goals
    go_ret
    exact ⟨by simp, rfl⟩

theorem bytes22_any (a : Option Addr) (n c : Nat) (x0 : Int) (w : World) (hn : n ≤ maxLen) :
   Calls Try.prog 22 #[.slice a n c, .int .u64 x0] w fun e w' => (e = .returned (.bool true) ∨ e = .returned (.bool false)) ∧ w' = w := by
  unfold maxLen at hn
  go_enter Try.func22, Try.ntmps22
  go_wp2
  all_goals
    go_ret
    exact ⟨by simp, rfl⟩

theorem bytes25_any (a : Option Addr) (n c : Nat) (x0 x1 x2 : Int) (w : World) (hn : n ≤ maxLen) :
   Calls Try.prog 25 #[.slice a n c, .int .u64 x0, .int .u64 x1, .int .u64 x2] w fun e w' => (e = .returned (.bool true) ∨ e = .returned (.bool false)) ∧ w' = w := by
  unfold maxLen at hn
  go_enter Try.func25, Try.ntmps25
  go_wp2
  all_goals
    go_ret
    exact ⟨by simp, rfl⟩

end Go.Proofs.Qxb6617302a

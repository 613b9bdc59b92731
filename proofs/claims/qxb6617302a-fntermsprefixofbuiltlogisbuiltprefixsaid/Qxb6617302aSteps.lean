/-
  Steps of a script (two cells each), and zzStepsFit.
-/
import Derived.Test.Qxb6617302aBase
namespace Go.Proofs.Qxb6617302a
open Go.RowKit

/-- One call add(term, n). -/
structure Sp where
  term : Int
  n : Int

def SRow (w : World) (ao : Option Addr) (m : Nat) (S : Nat → Sp) : Prop :=
  m = 0 ∨ ∃ b off, ao = some ⟨b, off, none⟩ ∧ ∀ i, i < m → w.cell? ⟨b, off + i * 2, none⟩ = some (.int .u64 (S i).term) ∧ w.cell? ⟨b, off + i * 2 + 1, none⟩ = some (.int .u64 (S i).n)

theorem SRow.kept {w w' : World} {ao : Option Addr} {m : Nat} {S : Nat → Sp} (h : SRow w ao m S) (hb : Below w.heap.size w w') : SRow w' ao m S := by
  rcases h with h | ⟨b, off, h, hc⟩
  · exact .inl h
  · exact .inr ⟨b, off, h, fun i hi => ⟨kcell hb (hc i hi).1, kcell hb (hc i hi).2⟩⟩

theorem SRow.at {w : World} {ao : Option Addr} {m : Nat} {S : Nat → Sp} (h : SRow w ao m S) {i : Nat} (hi : i < m) :
    ∃ b off, ao = some ⟨b, off, none⟩ ∧ w.cell? ⟨b, off + i * 2, none⟩ = some (.int .u64 (S i).term) ∧ w.cell? ⟨b, off + i * 2 + 1, none⟩ = some (.int .u64 (S i).n) := by
  rcases h with h | ⟨b, off, h, hc⟩
  · omega
  · exact ⟨b, off, h, hc i hi⟩

/-- The numbers are those of a uint64. -/
def Us (S : Nat → Sp) : Prop := ∀ i, 0 ≤ (S i).term ∧ (S i).term ≤ 18446744073709551615 ∧ 0 ≤ (S i).n ∧ (S i).n ≤ 18446744073709551615

/-- The number of entries added by the first k steps. -/
def sumN (S : Nat → Sp) : Nat → Int
  | 0 => 0
  | k + 1 => sumN S k + (S k).n

/-- The term of the last step, of the first k, that added entries. -/
def lastT (S : Nat → Sp) : Nat → Option Int
  | 0 => none
  | k + 1 => if (S k).n = 0 then lastT S k else some (S k).term

/-- The script fits: the total does not overflow, the terms never fall. -/
def Fit (S : Nat → Sp) (m : Nat) : Prop := ∀ i, i < m → sumN S (i + 1) ≤ 18446744073709551615 ∧ ((S i).n ≠ 0 → ∀ t, lastT S i = some t → t ≤ (S i).term)

theorem sumN_nonneg {S : Nat → Sp} (h : Us S) : ∀ k, 0 ≤ sumN S k
  | 0 => Int.le_refl _
  | k + 1 => by have := sumN_nonneg h k; have := (h k).2.2.1; unfold sumN; omega
theorem Fit.sum {S : Nat → Sp} {m : Nat} (h : Fit S m) : ∀ k, k ≤ m → sumN S k ≤ 18446744073709551615
  | 0, _ => by unfold sumN; omega
  | k + 1, hk => (h k (by omega)).1

theorem Fit.step {S : Nat → Sp} {k : Nat} (h : Fit S k) (h1 : sumN S k + (S k).n ≤ 18446744073709551615) (h2 : (S k).n ≠ 0 → ∀ t, lastT S k = some t → t ≤ (S k).term) : Fit S (k + 1) := by
  intro i hi
  by_cases he : i = k
  · subst he; exact ⟨h1, h2⟩
  · exact h i (by omega)

/-- What zzStepsFit answers. -/
def FitRet (S : Nat → Sp) (m : Nat) (e : Ending) : Prop := e = .returned (.bool false) ∨ (e = .returned (.bool true) ∧ Fit S m)

set_option maxHeartbeats 800000 in
theorem fit_any (a : Option Addr) (m c : Nat) (S : Nat → Sp) (w : World) (hm : m ≤ maxLen) (ha : SRow w a m S) (hS : Us S) :
    Calls Try.prog 16 #[.slice a m c] w fun e w' => FitRet S m e ∧ Below w.heap.size w w' := by
  unfold maxLen at hm
  go_enter Try.func16, Try.ntmps16
  go_wp2
  go_loopw [3, 4, 5, 6] (fun t l s i wr => ∃ k : Nat, k ≤ m ∧ i = .int .i64 k ∧ Fit S k ∧ t = .int .u64 (sumN S k) ∧ l = .int .u64 ((lastT S k).getD 0) ∧ s = .bool (lastT S k).isSome ∧ Below w.heap.size w wr) (fun _ _ _ i _ => m - (intOf i).toNat)
  case atStart => exact ⟨0, Nat.zero_le _, rfl, fun i hi => absurd hi (Nat.not_lt_zero _), rfl, rfl, rfl, Below.refl _ _⟩
  case round =>
    obtain ⟨k, hk, rfl, hF, rfl, rfl, rfl, hb⟩ := hrel
    by_cases hlt : k < m
    · obtain ⟨b1, o1, rfl, g0, g1⟩ := ha.at hlt
      have g0 := kcell hb g0
      have g1 := kcell hb g1
      have hsz := hb.size
      obtain ⟨u0, u1, u2, u3⟩ := hS k
      have s0 := sumN_nonneg hS k
      have s1 := hF.sum k (Nat.le_refl _)
      have HF : Hid (Fit S k) := hF
      obtain ⟨T, hT⟩ : ∃ T, Hid (sumN S k = T) := ⟨_, rfl⟩
      rw [hT.out] at s0 s1 ⊢
      have hpos : 0 < (S k).n → Hid (lastT S (k + 1) = some (S k).term) := fun h => by show _ = _; rw [lastT, if_neg (by omega)]
      have hnil : (S k).n ≤ 0 → Hid (lastT S (k + 1) = lastT S k) := fun h => by show _ = _; rw [lastT, if_pos (by omega)]
      have hsum : Hid (sumN S (k + 1) = T + (S k).n) := by show _ = _; rw [sumN, hT.out]
      cases hl : lastT S k with
      | none =>
        go_wp2
        · go_ret
          exact ⟨.inl rfl, hb.alloc hsz _⟩
        · have h1 : 0 < (S k).n := by assumption
          have h2 : (S k).n ≤ 18446744073709551615 - T := by assumption
          go_roundw
          case rel => exact ⟨k + 1, by omega, by go_num, HF.out.step (by rw [hT.out]; omega) (fun _ t' ht' => by rw [hl] at ht'; cases ht'), val_int hsum.out.symm, by rw [(hpos h1).out]; rfl, by rw [(hpos h1).out]; rfl, hb.alloc hsz _⟩
          case measure => simp [intOf]; omega
        · have h1 : (S k).n ≤ 0 := by assumption
          have h2 : (S k).n ≤ 18446744073709551615 - T := by assumption
          go_roundw
          case rel => exact ⟨k + 1, by omega, by go_num, HF.out.step (by rw [hT.out]; omega) (fun _ t' ht' => by rw [hl] at ht'; cases ht'), val_int hsum.out.symm, by rw [(hnil h1).out, hl], by rw [(hnil h1).out, hl], hb.alloc hsz _⟩
          case measure => simp [intOf]; omega
      | some t =>
        go_wp2
        · go_ret
          exact ⟨.inl rfl, hb.alloc hsz _⟩
        · go_ret
          exact ⟨.inl rfl, hb.alloc hsz _⟩
        · have h1 : 0 < (S k).n := by assumption
          have h2 : (S k).n ≤ 18446744073709551615 - T := by assumption
          have h3 : t ≤ (S k).term := by assumption
          go_roundw
          case rel => exact ⟨k + 1, by omega, by go_num, HF.out.step (by rw [hT.out]; omega) (fun _ t' ht' => by rw [hl] at ht'; cases ht'; exact h3), val_int hsum.out.symm, by rw [(hpos h1).out]; rfl, by rw [(hpos h1).out]; rfl, hb.alloc hsz _⟩
          case measure => simp [intOf]; omega
        · have h1 : (S k).n ≤ 0 := by assumption
          have h2 : (S k).n ≤ 18446744073709551615 - T := by assumption
          go_roundw
          case rel => exact ⟨k + 1, by omega, by go_num, HF.out.step (by rw [hT.out]; omega) (fun h => absurd (show (S k).n = 0 by omega) h), val_int hsum.out.symm, by rw [(hnil h1).out, hl], by rw [(hnil h1).out, hl], hb.alloc hsz _⟩
          case measure => simp [intOf]; omega
    · go_wp2
      go_ret
      exact ⟨.inr ⟨rfl, by rw [show m = k by omega]; exact hF⟩, hb⟩
end Go.Proofs.Qxb6617302a

/-
  THE PLAIN LAW of 'FnTermsAddScriptEncodesLog': what a script of adds leaves. No Go in sight.
-/
import Derived.Test.Qxb6617302aTerms
import Derived.Test.Qxb6617302aSteps
namespace Go.Proofs.Qxb6617302a

/-- The runs behind the first k steps. -/
def rns (S : Nat → Sp) : Nat → List Rn
  | 0 => []
  | k + 1 => addR (rns S k) (sumN S k) (S k).term (S k).n

theorem rns_zero {S : Nat → Sp} {k : Nat} (h : (S k).n = 0) : rns S (k + 1) = rns S k := by
  rw [rns, addR, if_pos h]

/-- The two ways of a step that adds entries. -/
theorem rns_pos {S : Nat → Sp} {k : Nat} (h : (S k).n ≠ 0) : ((rns S k).getLast?.map Rn.term = some (S k).term ∧ rns S (k + 1) = rns S k) ∨ ((rns S k).getLast?.map Rn.term ≠ some (S k).term ∧ rns S (k + 1) = rns S k ++ [⟨sumN S k, (S k).term⟩]) := by
  rw [rns, addR, if_neg h]
  by_cases hl : (rns S k).getLast?.map Rn.term = some (S k).term
  · exact .inl ⟨hl, if_pos hl⟩
  · exact .inr ⟨hl, if_neg hl⟩

theorem rns_le (S : Nat → Sp) : ∀ k, (rns S k).length ≤ k
  | 0 => Nat.le_refl _
  | k + 1 => by
    have := rns_le S k
    by_cases h : (S k).n = 0
    · rw [rns_zero h]; omega
    · rcases rns_pos h with ⟨_, e⟩ | ⟨_, e⟩ <;> rw [e]
      · omega
      · simp; omega

theorem rns_last (S : Nat → Sp) : ∀ k, (rns S k).getLast?.map Rn.term = lastT S k
  | 0 => rfl
  | k + 1 => by
    by_cases h : (S k).n = 0
    · rw [rns_zero h, lastT, if_pos h, rns_last S k]
    · rw [lastT, if_neg h]
      rcases rns_pos h with ⟨hl, e⟩ | ⟨_, e⟩ <;> rw [e]
      · exact hl
      · simp

theorem rns_firsts {S : Nat → Sp} (hS : Us S) : ∀ k, ∀ r ∈ rns S k, 0 ≤ r.first ∧ r.first < sumN S k
  | 0, r, hr => by simp [rns] at hr
  | k + 1, r, hr => by
    have hn := (hS k).2.2.1
    have hs := sumN_nonneg hS k
    by_cases h : (S k).n = 0
    · rw [rns_zero h] at hr
      have := rns_firsts hS k r hr
      rw [sumN]; omega
    · rcases rns_pos h with ⟨_, e⟩ | ⟨_, e⟩ <;> rw [e] at hr
      · have := rns_firsts hS k r hr
        rw [sumN]; omega
      · rcases List.mem_append.1 hr with hr | hr
        · have := rns_firsts hS k r hr
          rw [sumN]; omega
        · simp only [List.mem_singleton] at hr
          subst hr
          rw [sumN]
          show 0 ≤ sumN S k ∧ sumN S k < _
          omega

/-- What a step adds starts no earlier than its first entry. -/
theorem rns_more {S : Nat → Sp} (hS : Us S) (k : Nat) : ∀ d, ∃ T, rns S (k + d) = rns S k ++ T ∧ ∀ r ∈ T, sumN S k ≤ r.first
  | 0 => ⟨[], by simp, fun r hr => by simp at hr⟩
  | d + 1 => by
    obtain ⟨T, hT, hx⟩ := rns_more hS k d
    have hmono : ∀ j, sumN S k ≤ sumN S (k + j) := by
      intro j
      induction j with
      | zero => exact Int.le_refl _
      | succ j ih => have := (hS (k + j)).2.2.1; show _ ≤ sumN S (k + j + 1); rw [sumN]; omega
    by_cases h : (S (k + d)).n = 0
    · exact ⟨T, by show rns S (k + d + 1) = _; rw [rns_zero h, hT], hx⟩
    · rcases rns_pos h with ⟨_, e⟩ | ⟨_, e⟩
      · exact ⟨T, by show rns S (k + d + 1) = _; rw [e, hT], hx⟩
      · refine ⟨T ++ [⟨sumN S (k + d), (S (k + d)).term⟩], by show rns S (k + d + 1) = _; rw [e, hT, List.append_assoc], fun r hr => ?_⟩
        rcases List.mem_append.1 hr with hr | hr
        · exact hx r hr
        · simp only [List.mem_singleton] at hr
          subst hr
          exact hmono d

theorem rns_split {S : Nat → Sp} (hS : Us S) {k m : Nat} (h : k ≤ m) : ∃ T, rns S m = rns S k ++ T ∧ ∀ r ∈ T, sumN S k ≤ r.first := by
  have := rns_more hS k (m - k)
  rwa [show k + (m - k) = m by omega] at this

theorem rns_empty {S : Nat → Sp} (hS : Us S) : ∀ k, rns S k = [] ↔ sumN S k = 0
  | 0 => ⟨fun _ => rfl, fun _ => rfl⟩
  | k + 1 => by
    have hn := (hS k).2.2.1
    have hs := sumN_nonneg hS k
    have ih := rns_empty hS k
    by_cases h : (S k).n = 0
    · rw [rns_zero h, ih, sumN]; omega
    · rcases rns_pos h with ⟨hl, e⟩ | ⟨_, e⟩ <;> rw [e, sumN]
      · constructor
        · intro h0; rw [h0] at hl; simp at hl
        · intro h0; omega
      · constructor
        · intro h0; simp at h0
        · intro h0; omega

/-- The i-th run. -/
def nth (R : List Rn) (i : Nat) : Rn := R.getD i ⟨0, 0⟩
theorem nth_left {R T : List Rn} {i : Nat} (h : i < R.length) : nth (R ++ T) i = nth R i := by
  simp [nth, List.getD, List.getElem?_append_left h]
theorem nth_right {R T : List Rn} {i : Nat} (h : R.length ≤ i) : nth (R ++ T) i = nth T (i - R.length) := by
  simp [nth, List.getD, List.getElem?_append_right h]
theorem nth_mem {R : List Rn} {i : Nat} (h : i < R.length) : nth R i ∈ R := by
  have : nth R i = R[i] := by simp [nth, List.getD, List.getElem?_eq_getElem h]
  rw [this]; exact List.getElem_mem h

theorem rns_zeroth {S : Nat → Sp} (hS : Us S) : ∀ k, rns S k ≠ [] → (nth (rns S k) 0).first = 0
  | 0, h => absurd rfl h
  | k + 1, h => by
    by_cases hz : (S k).n = 0
    · rw [rns_zero hz] at h ⊢; exact rns_zeroth hS k h
    · rcases rns_pos hz with ⟨hl, e⟩ | ⟨_, e⟩ <;> rw [e]
      · exact rns_zeroth hS k (by intro h0; rw [h0] at hl; simp at hl)
      · by_cases h0 : rns S k = []
        · rw [h0]
          exact (rns_empty hS k).1 h0
        · rw [nth_left (List.length_pos_iff.2 h0)]
          exact rns_zeroth hS k h0

def Rise (R : List Rn) : Prop := ∀ i, i + 1 < R.length → (nth R i).first < (nth R (i + 1)).first ∧ (nth R i).term < (nth R (i + 1)).term

theorem last_nth {R : List Rn} (h : R ≠ []) : R.getLast? = some (nth R (R.length - 1)) := by
  have hp : 0 < R.length := List.length_pos_iff.2 h
  rw [List.getLast?_eq_getElem?]
  simp [nth, List.getD, List.getElem?_eq_getElem (show R.length - 1 < R.length by omega)]

theorem rns_rise {S : Nat → Sp} (hS : Us S) {m : Nat} (hF : Fit S m) : ∀ k, k ≤ m → Rise (rns S k)
  | 0, _ => fun i hi => by simp [rns] at hi
  | k + 1, hk => by
    have ih := rns_rise hS hF k (by omega)
    by_cases hz : (S k).n = 0
    · rw [rns_zero hz]; exact ih
    · rcases rns_pos hz with ⟨_, e⟩ | ⟨hl, e⟩ <;> rw [e]
      · exact ih
      · intro i hi
        simp at hi
        by_cases hlt : i + 1 < (rns S k).length
        · rw [nth_left (by omega), nth_left hlt]; exact ih i hlt
        · have hne : rns S k ≠ [] := by intro h0; rw [h0] at hi hlt; simp at hi hlt
          have hi' : i = (rns S k).length - 1 := by have := List.length_pos_iff.2 hne; omega
          rw [nth_left (by omega), nth_right (by omega), show i + 1 - (rns S k).length = 0 by omega]
          refine ⟨(rns_firsts hS k _ (nth_mem (by omega))).2, ?_⟩
          have h1 := rns_last S k
          rw [last_nth hne, ← hi'] at h1
          rw [last_nth hne, ← hi'] at hl
          have h2 := (hF k (by omega)).2 hz _ h1.symm
          have h3 : (nth (rns S k) i).term ≠ (S k).term := by simpa using hl
          show (nth (rns S k) i).term < (S k).term
          omega

/-- The run in which step k's entries lie. -/
def runOf (S : Nat → Sp) (k : Nat) : Nat := (rns S k).length - 1

theorem step_run {S : Nat → Sp} (hS : Us S) {k m : Nat} (hk : k < m) (hz : (S k).n ≠ 0) :
    runOf S k ≤ runOf S (k + 1) ∧ runOf S (k + 1) < (rns S m).length ∧ (∀ q, q ≤ runOf S (k + 1) → (nth (rns S m) q).first ≤ sumN S k) ∧
    (runOf S (k + 1) + 1 < (rns S m).length → sumN S k + (S k).n ≤ (nth (rns S m) (runOf S (k + 1) + 1)).first) ∧ (nth (rns S m) (runOf S (k + 1))).term = (S k).term := by
  have hne : rns S (k + 1) ≠ [] := by
    intro h0
    have := (rns_empty hS (k + 1)).1 h0
    have := sumN_nonneg hS k
    have := (hS k).2.2.1
    rw [sumN] at *
    omega
  have hp : 0 < (rns S (k + 1)).length := List.length_pos_iff.2 hne
  obtain ⟨T, hT, hx⟩ := rns_split hS (show k + 1 ≤ m by omega)
  have hlen : (rns S m).length = (rns S (k + 1)).length + T.length := by rw [hT]; simp
  have hlk : (rns S k).length ≤ (rns S (k + 1)).length := by
    rcases rns_pos hz with ⟨_, e⟩ | ⟨_, e⟩ <;> rw [e] <;> simp
  refine ⟨by unfold runOf; omega, by unfold runOf; omega, fun q hq => ?_, fun hlt => ?_, ?_⟩
  · have hq' : q < (rns S (k + 1)).length := by unfold runOf at hq; omega
    rw [hT, nth_left hq']
    rcases rns_pos hz with ⟨_, e⟩ | ⟨_, e⟩
    · rw [e] at hq' ⊢
      have := rns_firsts hS k _ (nth_mem hq')
      omega
    · rw [e] at hq' ⊢
      by_cases h : q < (rns S k).length
      · rw [nth_left h]
        have := rns_firsts hS k _ (nth_mem h)
        omega
      · simp at hq'
        rw [nth_right (by omega), show q - (rns S k).length = 0 by omega]
        exact Int.le_refl _
  · have hq : runOf S (k + 1) + 1 = (rns S (k + 1)).length := by unfold runOf; omega
    rw [hq] at hlt ⊢
    rw [hT, nth_right (Nat.le_refl _), Nat.sub_self]
    have := hx _ (nth_mem (R := T) (i := 0) (by omega))
    rw [sumN] at this
    exact this
  · have h1 := rns_last S (k + 1)
    rw [last_nth hne, lastT, if_neg hz] at h1
    rw [hT, nth_left (by unfold runOf; omega)]
    simpa [runOf] using h1

theorem runOf_zero {S : Nat → Sp} {k : Nat} (h : (S k).n = 0) : runOf S (k + 1) = runOf S k := by unfold runOf; rw [rns_zero h]

end Go.Proofs.Qxb6617302a

/-
  THE PLAIN LAW of 'FnVotersLearnerFlipSplitsIDs': no Go in sight.
-/
import Derived.Test.Qxb6617302aVoters
namespace Go.Proofs.Qxb6617302a

def flipM (M : Nat → Mb) : Nat → Mb := fun i => { M i with lrn := !(M i).lrn }

theorem vot_more (M : Nat → Mb) (k : Nat) : ∀ d, ∃ t, vot M (k + d) = vot M k ++ t ∧ ∀ x ∈ t, ∃ j, k ≤ j ∧ j < k + d ∧ x = (M j).id ∧ (M j).lrn = false
  | 0 => ⟨[], by simp, fun x hx => by simp at hx⟩
  | d + 1 => by
    obtain ⟨t, ht, hx⟩ := vot_more M k d
    by_cases hL : (M (k + d)).lrn = true
    · refine ⟨t, ?_, fun x h => ?_⟩
      · show vot M (k + d + 1) = _
        rw [vot, if_pos hL, ht]
      · obtain ⟨j, h1, h2, h3⟩ := hx x h
        exact ⟨j, h1, by omega, h3⟩
    · refine ⟨t ++ [(M (k + d)).id], ?_, fun x h => ?_⟩
      · show vot M (k + d + 1) = _
        rw [vot, if_neg hL, ht, List.append_assoc]
      · rcases List.mem_append.1 h with h | h
        · obtain ⟨j, h1, h2, h3⟩ := hx x h
          exact ⟨j, h1, by omega, h3⟩
        · simp only [List.mem_singleton] at h
          exact ⟨k + d, by omega, by omega, h, by simpa using hL⟩

theorem vot_split (M : Nat → Mb) {k n : Nat} (h : k ≤ n) : ∃ t, vot M n = vot M k ++ t ∧ ∀ x ∈ t, ∃ j, k ≤ j ∧ j < n ∧ x = (M j).id ∧ (M j).lrn = false := by
  have := vot_more M k (n - k)
  rwa [show k + (n - k) = n by omega] at this

/-- A voter's id stands at its place among the voters. -/
theorem vot_hit {M : Nat → Mb} {k n : Nat} (h : k < n) (hL : (M k).lrn = false) :
    (vot M k).length < (vot M n).length ∧ (vot M n).getD (vot M k).length 0 = (M k).id ∧ (vot M (k + 1)).length = (vot M k).length + 1 := by
  obtain ⟨t, ht, _⟩ := vot_split M (show k + 1 ≤ n by omega)
  have e : vot M (k + 1) = vot M k ++ [(M k).id] := by rw [vot, if_neg (by simp [hL])]
  refine ⟨?_, ?_, ?_⟩
  · rw [ht, e]; simp
  · rw [ht, e]; simp [List.getD]
  · rw [e]; simp

theorem vot_miss_len {M : Nat → Mb} {k : Nat} (hL : (M k).lrn = true) : (vot M (k + 1)).length = (vot M k).length := by
  rw [vot, if_pos hL]

def Rising (M : Nat → Mb) (n : Nat) : Prop := ∀ i, 1 ≤ i → i < n → (M (i - 1)).id < (M i).id

theorem Rising.lt {M : Nat → Mb} {n : Nat} (h : Rising M n) (i : Nat) : ∀ d, i + d + 1 < n → (M i).id < (M (i + d + 1)).id
  | 0, hd => by have := h (i + 1) (by omega) hd; simpa using this
  | d + 1, hd => by
    have h1 := h.lt i d (by omega)
    have h2 := h (i + d + 1 + 1) (by omega) hd
    rw [show i + d + 1 + 1 - 1 = i + d + 1 by omega] at h2
    exact Int.lt_trans h1 h2

/-- A learner's id is not the next voter's. -/
theorem vot_miss {M : Nat → Mb} {k n : Nat} (hr : Rising M n) (h : k < n) (hL : (M k).lrn = true) (hlt : (vot M k).length < (vot M n).length) :
    (vot M n).getD (vot M k).length 0 ≠ (M k).id := by
  obtain ⟨t, ht, hx⟩ := vot_split M (show k ≤ n by omega)
  rw [ht] at hlt ⊢
  match t, hx with
  | [], _ => simp at hlt
  | x :: t, hx =>
    obtain ⟨j, h1, h2, h3, h4⟩ := hx x (by simp)
    have hne : j ≠ k := by intro e; rw [e, hL] at h4; cases h4
    have := hr.lt k (j - k - 1) (by omega)
    rw [show k + (j - k - 1) + 1 = j by omega] at this
    simp [List.getD]
    omega

end Go.Proofs.Qxb6617302a

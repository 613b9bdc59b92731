/-
  THE PLAIN LAW of 'FnTermsPrefixOfBuiltLogIsBuiltPrefix': a script that is cut off builds the leading part of the log. No Go in sight.
-/
import Derived.Test.Qxb6617302aPrefixMore
import Derived.Test.Qxb6617302aSplitPlain
namespace Go.Proofs.Qxb6617302a

/-- The script cut off behind h entries. -/
def cutS (S : Nat → Sp) (h : Int) : Nat → Sp := fun i => ⟨(S i).term, if sumN S i < h then (if (S i).n < h - sumN S i then (S i).n else h - sumN S i) else 0⟩

theorem cut_bounds {S : Nat → Sp} (hS : Us S) (h : Int) (i : Nat) : 0 ≤ (cutS S h i).n ∧ (cutS S h i).n ≤ (S i).n := by
  have := (hS i).2.2.1
  unfold cutS
  simp only
  split
  · split <;> omega
  · omega

theorem cut_sum {S : Nat → Sp} (hS : Us S) {h : Int} (h0 : 0 ≤ h) : ∀ k, sumN (cutS S h) k = min (sumN S k) h
  | 0 => by show (0 : Int) = min 0 h; omega
  | k + 1 => by
    have := (hS k).2.2.1
    rw [sumN, sumN, cut_sum hS h0 k]
    unfold cutS
    simp only
    split
    · split <;> omega
    · omega

theorem filter_all {R : List Rn} {h : Int} (hR : ∀ r ∈ R, r.first < h) : R.filter (fun r => decide (r.first < h)) = R :=
  List.filter_eq_self.2 fun r hr => by simpa using hR r hr

theorem cut_runs {S : Nat → Sp} (hS : Us S) {h : Int} (h0 : 0 ≤ h) : ∀ k, rns (cutS S h) k = (rns S k).filter (fun r => decide (r.first < h))
  | 0 => rfl
  | k + 1 => by
    have ih := cut_runs hS h0 k
    have hn := (hS k).2.2.1
    by_cases hz : (S k).n = 0
    · have hz' : (cutS S h k).n = 0 := by have := cut_bounds hS h k; omega
      rw [rns_zero hz, rns_zero hz', ih]
    · by_cases hp : sumN S k < h
      · have hall : ∀ r ∈ rns S k, r.first < h := fun r hr => by have := rns_firsts hS k r hr; omega
        rw [filter_all hall] at ih
        have hc : (cutS S h k).n ≠ 0 := by
          unfold cutS
          simp only
          rw [if_pos hp]
          split <;> omega
        have hs : sumN (cutS S h) k = sumN S k := by rw [cut_sum hS h0]; omega
        have e : rns (cutS S h) (k + 1) = rns S (k + 1) := by
          rw [rns, rns, ih, hs]
          show addR _ _ (S k).term _ = _
          unfold addR
          rw [if_neg hc, if_neg hz]
        rw [e]
        symm
        refine filter_all fun r hr => ?_
        rcases rns_pos hz with ⟨_, e2⟩ | ⟨_, e2⟩ <;> rw [e2] at hr
        · exact hall r hr
        · rcases List.mem_append.1 hr with hr | hr
          · exact hall r hr
          · simp only [List.mem_singleton] at hr
            rw [hr]; exact hp
      · have hz' : (cutS S h k).n = 0 := by unfold cutS; simp only; rw [if_neg hp]
        rw [rns_zero hz', ih]
        rcases rns_pos hz with ⟨_, e2⟩ | ⟨_, e2⟩ <;> rw [e2]
        rw [List.filter_append]
        simp [hp]

theorem Rise.mono {R : List Rn} (h : Rise R) (i : Nat) : ∀ d, i + d < R.length → (nth R i).first ≤ (nth R (i + d)).first
  | 0, _ => Int.le_refl _
  | d + 1, hd => by
    have h1 := h.mono i d (by omega)
    have h2 := (h (i + d) (by omega)).1
    rw [show i + (d + 1) = i + d + 1 by omega]
    omega

/-- The filter is the leading segment. -/
theorem filter_lead {R : List Rn} (hR : Rise R) {h : Int} {k : Nat} (hL : Lead (nth R) R.length h k) : R.filter (fun r => decide (r.first < h)) = R.take k := by
  have e : R = R.take k ++ R.drop k := (List.take_append_drop k R).symm
  have hk := hL.le
  have h1 : (R.take k).filter (fun r => decide (r.first < h)) = R.take k := by
    refine filter_all fun r hr => ?_
    obtain ⟨i, hi, rfl⟩ := List.mem_iff_getElem.1 hr
    have hi' : i < k := by simp at hi; omega
    have := hL.lo i hi'
    rw [nth_get (by omega)] at this
    rw [List.getElem_take]; exact this
  have h2 : (R.drop k).filter (fun r => decide (r.first < h)) = [] := by
    rw [List.filter_eq_nil_iff]
    intro r hr
    obtain ⟨i, hi, rfl⟩ := List.mem_iff_getElem.1 hr
    simp at hi
    have hlt : k + i < R.length := by omega
    have h3 := hL.hi (by omega)
    have h4 := hR.mono k i hlt
    rw [List.getElem_drop, ← nth_get hlt]
    simp; omega
  have h5 : R.filter (fun r => decide (r.first < h)) = (R.take k ++ R.drop k).filter (fun r => decide (r.first < h)) := by rw [← e]
  rw [h5, List.filter_append, h1, h2, List.append_nil]

/-- THE LAW: the cut script's runs are the leading runs of the whole script's log. -/
theorem built_prefix {S : Nat → Sp} (hS : Us S) {m : Nat} (hF : Fit S m) {h want : Int} (h0 : 0 ≤ h) (hw : want = min h (sumN S m)) {k : Nat} (hL : Lead (nth (rns S m)) (rns S m).length want k) :
    k = (rns (cutS S h) m).length ∧ ∀ i, i < k → nth (rns S m) i = nth (rns (cutS S h) m) i := by
  have hf := rns_firsts hS m
  have e : rns (cutS S h) m = (rns S m).take k := by
    rw [cut_runs hS h0 m, ← filter_lead (rns_rise hS hF m (Nat.le_refl _)) hL]
    refine List.filter_congr fun r hr => ?_
    have := hf r hr
    have e2 : (r.first < h) ↔ (r.first < want) := by omega
    simp only [e2]
  have hk := hL.le
  refine ⟨by rw [e]; simp; omega, fun i hi => ?_⟩
  rw [e, nth_get (by omega), nth_get (by simp; omega), List.getElem_take]

theorem cut_head {S : Nat → Sp} (hS : Us S) {m : Nat} {h want : Int} (h0 : 0 ≤ h) (hw : want = min h (sumN S m)) : sumN (cutS S h) m = want := by
  rw [cut_sum hS h0, hw]; omega

end Go.Proofs.Qxb6617302a

/-
  THE PLAIN LAW: labels in the order of first sight, and the lines that stand for them.
-/
import Derived.Test.Qxb6618380aNums
namespace Go.Proofs.Qxb6618380a
open Go.RowKit

/-- The key of the p-th of all lines. -/
def K2 (n : Nat) (L M : Nat → Ln) (p : Nat) : List UInt8 := kb (lineOf n L M p).bs
/-- Its label. -/
def V2 (n : Nat) (L M : Nat → Ln) (p : Nat) : Nat := idx (accs [] (K2 n L M) (p + 1)) (K2 n L M p)

theorem K2_left {n : Nat} {L M : Nat → Ln} {p : Nat} (h : p < n) : K2 n L M p = keyOfLine L p := by unfold K2 keyOfLine; rw [lineOf_left h]
theorem K2_right {n : Nat} {L M : Nat → Ln} (j : Nat) : K2 n L M (n + j) = keyOfLine M j := by unfold K2 keyOfLine; rw [lineOf_right (by omega), show n + j - n = j by omega]
theorem accs_left (n : Nat) (L M : Nat → Ln) : ∀ p, p ≤ n → accs [] (keyOfLine L) p = accs [] (K2 n L M) p
  | 0, _ => rfl
  | p + 1, h => by rw [accs, accs, accs_left n L M p (by omega), K2_left (by omega)]
theorem accs_both (n m : Nat) (L M : Nat → Ln) : accs (accs [] (keyOfLine L) n) (keyOfLine M) m = accs [] (K2 n L M) (n + m) :=
  accs_join _ _ _ n (fun _ h => K2_left h) (fun j => K2_right j) m
theorem lab_left {n : Nat} {L M : Nat → Ln} {p : Nat} (h : p < n) : lab [] (keyOfLine L) p = (V2 n L M p : Int) := by
  unfold lab V2
  rw [accs_left n L M (p + 1) (by omega), K2_left h]
theorem lab_right {n : Nat} {L M : Nat → Ln} (j : Nat) : lab (accs [] (keyOfLine L) n) (keyOfLine M) j = (V2 n L M (n + j) : Int) := by
  unfold lab V2
  rw [accs_both n (j + 1) L M, K2_right j]
  rfl

theorem num_any (a b : Nat) (n c m d p : Nat) (L M : Nat → Ln) (w : World) (hn : n ≤ 65536) (hm : m ≤ 65536) (ha : IRow w (some ⟨a, 0, none⟩) n (lab [] (keyOfLine L))) (hb : IRow w (some ⟨b, 0, none⟩) m (lab (accs [] (keyOfLine L) n) (keyOfLine M))) (hp : p < n + m) :
   Calls Try.prog 7 #[.slice (some ⟨a, 0, none⟩) n c, .slice (some ⟨b, 0, none⟩) m d, .int .i64 n, .int .i64 p] w fun e w' => e = .returned (.int .i64 (V2 n L M p)) ∧ w' = w := by
  by_cases h : p < n
  · rw [← lab_left (M := M) h]
    exact numAt_left _ _ n c m d p _ w hn ha h
  · obtain ⟨j, rfl⟩ : ∃ j, p = n + j := ⟨p - n, by omega⟩
    rw [← lab_right j]
    exact numAt_right _ _ n c m d j _ w hn hm hb (by omega)

/-- The lines rp stand for the labels that have been given behind p lines. -/
structure Reps (K : Nat → List UInt8) (p : Nat) (rp : List Nat) : Prop where
  long : rp.length = (accs [] K p).length
  below : ∀ (k r : Nat), rp[k]? = some r → r < p
  key : ∀ (k r : Nat), rp[k]? = some r → (accs [] K p)[k]? = some (K r)
theorem reps_nil (K : Nat → List UInt8) : Reps K 0 [] := ⟨rfl, fun _ _ h => by simp at h, fun _ _ h => by simp at h⟩
/-- A line that has been seen. -/
theorem Reps.old {K : Nat → List UInt8} {p : Nat} {rp : List Nat} (h : Reps K p rp) (hin : K p ∈ accs [] K p) :
    idx (accs [] K (p + 1)) (K p) < rp.length ∧ (∀ r, rp[idx (accs [] K (p + 1)) (K p)]? = some r → K r = K p) ∧ Reps K (p + 1) rp := by
  have e : accs [] K (p + 1) = accs [] K p := by rw [accs]; unfold see; rw [if_pos hin]
  rw [e]
  refine ⟨by rw [h.long]; exact idx_lt hin, fun r hr => ?_, ⟨by rw [e]; exact h.long, fun k r hr => Nat.lt_succ_of_lt (h.below k r hr), fun k r hr => by rw [e]; exact h.key k r hr⟩⟩
  have h1 := h.key _ r hr
  rw [List.getElem?_eq_getElem (idx_lt hin), idx_get hin] at h1
  injection h1 with h1
  exact h1.symm
/-- A new line. -/
theorem Reps.new {K : Nat → List UInt8} {p : Nat} {rp : List Nat} (h : Reps K p rp) (hin : K p ∉ accs [] K p) :
    idx (accs [] K (p + 1)) (K p) = rp.length ∧ (∀ (k r : Nat), rp[k]? = some r → K r ≠ K p) ∧ Reps K (p + 1) (rp ++ [p]) := by
  have e : accs [] K (p + 1) = accs [] K p ++ [K p] := by rw [accs]; unfold see; rw [if_neg hin]
  rw [e]
  refine ⟨by rw [idx_new hin, h.long], fun k r hr c => hin ?_, ⟨by rw [e]; simp [h.long], fun k r hr => ?_, fun k r hr => ?_⟩⟩
  · rw [← c]
    exact List.mem_of_getElem? (h.key k r hr)
  · by_cases hk : k < rp.length
    · rw [List.getElem?_append_left hk] at hr
      exact Nat.lt_succ_of_lt (h.below k r hr)
    · rw [List.getElem?_append_right (by omega)] at hr
      have := List.mem_of_getElem? hr
      simp at this
      omega
  · rw [e]
    by_cases hk : k < rp.length
    · rw [List.getElem?_append_left hk] at hr
      rw [List.getElem?_append_left (by rw [← h.long]; exact hk)]
      exact h.key k r hr
    · rw [List.getElem?_append_right (by omega)] at hr
      rw [List.getElem?_append_right (by rw [← h.long]; omega), ← h.long]
      have hm := List.mem_of_getElem? hr
      simp at hm
      subst hm
      have h0 : k - rp.length = 0 := by
        by_cases h1 : k - rp.length = 0
        · exact h1
        · rw [List.getElem?_eq_none (by simp; omega)] at hr; cases hr
      rw [h0]; rfl
theorem Reps.len_le {K : Nat → List UInt8} {p : Nat} {rp : List Nat} (h : Reps K p rp) : rp.length ≤ p := by
  rw [h.long]; have := accs_len [] K p; simpa using this

theorem line_ok {w : World} {a b : Option Addr} {n m : Nat} {L M : Nat → Ln} (ha : LRow w a n L) (hb : LRow w b m M) {p : Nat} (hp : p < n + m) : LnOk w (lineOf n L M p) := by
  by_cases h : p < n
  · rw [lineOf_left h]
    obtain ⟨_, _, _, _, hl⟩ := ha.at h
    exact hl
  · rw [lineOf_right h]
    obtain ⟨_, _, _, _, hl⟩ := hb.at (show p - n < m by omega)
    exact hl
/-- Same bytes, same key. -/
theorem same_key {w : World} {x y : Ln} (hx : LnOk w x) (hy : LnOk w y) : decide (x.bs = y.bs) = decide (kb x.bs = kb y.bs) := by
  by_cases h : x.bs = y.bs
  · rw [h]; simp
  · rw [decide_eq_false h, decide_eq_false]
    intro e; exact h (kb_inj hx.byte hy.byte e)
end Go.Proofs.Qxb6618380a

/-
  THE PLAIN MATHEMATICS: keys in the order of first sight, and the map that numbers them.
-/
import Derived.Test.Qxb6618380aBase
namespace Go.Proofs.Qxb6618380a
open Go.Maps

/-- The place of x in acc (its length where x is not in it). -/
def idx (acc : List (List UInt8)) (x : List UInt8) : Nat := acc.findIdx (fun y => decide (y = x))
/-- x has been seen. -/
def see (acc : List (List UInt8)) (x : List UInt8) : List (List UInt8) := if x ∈ acc then acc else acc ++ [x]

theorem idx_lt {acc : List (List UInt8)} {x : List UInt8} (h : x ∈ acc) : idx acc x < acc.length := by
  unfold idx
  exact List.findIdx_lt_length_of_exists ⟨x, h, by simp⟩
theorem idx_get {acc : List (List UInt8)} {x : List UInt8} (h : x ∈ acc) : acc[idx acc x]'(idx_lt h) = x := by
  have := List.findIdx_getElem (p := fun y => decide (y = x)) (xs := acc) (w := idx_lt h)
  exact of_decide_eq_true this
theorem idx_append {acc T : List (List UInt8)} {x : List UInt8} (h : x ∈ acc) : idx (acc ++ T) x = idx acc x := by
  have hl : acc.findIdx (fun y => decide (y = x)) < acc.length := idx_lt h
  unfold idx
  rw [List.findIdx_append, if_pos hl]
theorem idx_new {acc : List (List UInt8)} {x : List UInt8} (h : x ∉ acc) : idx (acc ++ [x]) x = acc.length := by
  unfold idx
  have e : acc.findIdx (fun y => decide (y = x)) = acc.length := List.findIdx_eq_length.2 fun y hy => by
    simp only [decide_eq_false_iff_not]
    intro e; exact h (e ▸ hy)
  rw [List.findIdx_append, if_neg (by rw [e]; exact Nat.lt_irrefl _)]
  simp

/-- The keys seen behind the first k lines, from acc on. -/
def accs (acc : List (List UInt8)) (K : Nat → List UInt8) : Nat → List (List UInt8)
  | 0 => acc
  | k + 1 => see (accs acc K k) (K k)

theorem see_mem (acc : List (List UInt8)) (x : List UInt8) : x ∈ see acc x := by unfold see; split <;> simp_all
theorem see_pre (acc : List (List UInt8)) (x : List UInt8) : ∃ T, see acc x = acc ++ T := by
  unfold see; split
  · exact ⟨[], by simp⟩
  · exact ⟨[x], rfl⟩
theorem see_len (acc : List (List UInt8)) (x : List UInt8) : (see acc x).length ≤ acc.length + 1 := by unfold see; split <;> simp
theorem accs_len (acc : List (List UInt8)) (K : Nat → List UInt8) : ∀ k, (accs acc K k).length ≤ acc.length + k
  | 0 => Nat.le_refl _
  | k + 1 => by have := accs_len acc K k; have := see_len (accs acc K k) (K k); rw [accs]; omega
theorem accs_pre (acc : List (List UInt8)) (K : Nat → List UInt8) (k : Nat) : ∀ d, ∃ T, accs acc K (k + d) = accs acc K k ++ T
  | 0 => ⟨[], by simp⟩
  | d + 1 => by
    obtain ⟨T, hT⟩ := accs_pre acc K k d
    obtain ⟨U, hU⟩ := see_pre (accs acc K (k + d)) (K (k + d))
    refine ⟨T ++ U, ?_⟩
    show see (accs acc K (k + d)) (K (k + d)) = _
    rw [hU, hT, List.append_assoc]
theorem accs_split (acc : List (List UInt8)) (K : Nat → List UInt8) {k m : Nat} (h : k ≤ m) : ∃ T, accs acc K m = accs acc K k ++ T := by
  have := accs_pre acc K k (m - k)
  rwa [show k + (m - k) = m by omega] at this
theorem accs_mem (acc : List (List UInt8)) (K : Nat → List UInt8) {i m : Nat} (h : i < m) : K i ∈ accs acc K m := by
  obtain ⟨T, hT⟩ := accs_split acc K (show i + 1 ≤ m by omega)
  rw [hT]
  exact List.mem_append_left _ (see_mem _ _)
theorem accs_nodup {acc : List (List UInt8)} (h : acc.Nodup) (K : Nat → List UInt8) : ∀ k, (accs acc K k).Nodup
  | 0 => h
  | k + 1 => by
    have ih := accs_nodup h K k
    rw [accs]; unfold see
    split
    · exact ih
    · rename_i hx
      rw [List.nodup_append]
      exact ⟨ih, by simp, fun a ha b hb => by simp at hb; subst hb; intro e; exact hx (e ▸ ha)⟩
/-- Two stretches of lines, one behind the other. -/
theorem accs_join (K1 K2 K : Nat → List UInt8) (n : Nat) (h1 : ∀ i, i < n → K i = K1 i) (h2 : ∀ i, K (n + i) = K2 i) : ∀ m, accs (accs [] K1 n) K2 m = accs [] K (n + m)
  | 0 => by
    have : ∀ k, k ≤ n → accs [] K1 k = accs [] K k := by
      intro k
      induction k with
      | zero => intro _; rfl
      | succ k ih => intro hk; rw [accs, accs, ih (by omega), h1 k (by omega)]
    exact this n (Nat.le_refl _)
  | m + 1 => by
    show see (accs (accs [] K1 n) K2 m) (K2 m) = see (accs [] K (n + m)) (K (n + m))
    rw [accs_join K1 K2 K n h1 h2 m, h2 m]

/-! ### The map -/
/-- The map reads, at each key that has been seen, that key's place. -/
structure MapIs (D : DataW Unit) (acc : List (List UInt8)) : Prop where
  tidy : Tidy D
  has : ∀ x, Maps.has D (.string x) = decide (x ∈ acc)
  val : ∀ x ∈ acc, ∀ z, D.atKey (.string x) z = .lit (.int .i64 (idx acc x))
  size : Maps.size D = acc.length

theorem mapIs_nil : MapIs (.map []) [] := ⟨tidy_empty, fun x => by simp [Maps.has], fun x hx => by simp at hx, rfl⟩

theorem MapIs.put {D : DataW Unit} {acc : List (List UInt8)} (h : MapIs D acc) {x : List UInt8} (hx : x ∉ acc) : MapIs (D.put (.string x) (.lit (.int .i64 acc.length))) (acc ++ [x]) := by
  have hk : WideAt.IsKeyLit (.string x) := trivial
  have hno : Maps.has D (.string x) = false := by rw [h.has]; simpa using hx
  refine ⟨h.tidy.put hk _, fun y => ?_, fun y hy z => ?_, ?_⟩
  · by_cases e : y = x
    · subst e
      rw [has_put_same h.tidy.isMap hk]; simp
    · rw [has_put_other (by intro c; injection c with c; exact e c), h.has]; simp [e]
  · by_cases e : y = x
    · subst e
      rw [atKey_put_same h.tidy.isMap hk, idx_new hx]
    · have hy' : y ∈ acc := by simp [e] at hy; exact hy
      rw [atKey_put_other (by intro c; injection c with c; exact e c), h.val y hy' z, idx_append hy']
  · rw [size_put h.tidy, hno, h.size]; simp

end Go.Proofs.Qxb6618380a

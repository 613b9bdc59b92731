/-
  FROM THE READING OF AN ARGUMENT TO WHAT THE WALKS ASK: slices of steps, of runs.
-/
import Derived.Test.Qxb6617302aRuns
import Derived.ProofKit
import Derived.OpenShut
import Derived.Deep.Slices
import Derived.Deep.SlicePairs
namespace Go.Proofs.Qxb6617302a
open Go.ChangeShapes Go.WideShapes Go.ChangeAt Go.RowKit Go.Deep
section
variable {H : Type} {enc : TypeId × Value → H} {W : World} {base : Nat} {spare : Nat → Bool} {held : Bool}

theorem cellsU : Try.prog.cellsOf 22 = 1 := by kernel_rfl
theorem cells44 : Try.prog.cellsOf 44 = 2 := by kernel_rfl
theorem cells52 : Try.prog.cellsOf 52 = 2 := by kernel_rfl

theorem open_steps {a : Option Addr} {n c : Nat} {d : DataW H} {p : List MemPlace} (h : DataW.Trod enc Try.prog W base spare held 36 (.slice a n c) d p) :
    ∃ S, SRow W a n S ∧ Us S ∧ NilOk a n ∧ n ≤ maxLen := by
  obtain ⟨fuel, hf⟩ := h
  have hU0 : Us (fun _ => ⟨0, 0⟩) := fun i => by simp
  rcases open_slice_pairs Try.underlying36 Try.underlying44 cells44 rfl rfl cellsU cellsU hf with ⟨hcs, _⟩ | ⟨x, len, cap, m, k, V0, V1, D0, D1, P0, P1, hcs, _, hl, hm, hmm, _, hx⟩
  · simp [Value.cells] at hcs
    obtain ⟨rfl, rfl, rfl⟩ := hcs
    exact ⟨fun _ => ⟨0, 0⟩, .inl rfl, hU0, fun _ => rfl, Nat.zero_le _⟩
  · simp [Value.cells] at hcs
    obtain ⟨rfl, rfl, rfl⟩ := hcs
    have hlm : n ≤ m := by rw [hmm]; split <;> omega
    have each : ∀ i, i < n → ∃ S : Sp, (W.cell? (x.add (i * 2)) = some (.int .u64 S.term) ∧ W.cell? (x.add (i * 2 + 1)) = some (.int .u64 S.n)) ∧ 0 ≤ S.term ∧ S.term ≤ 18446744073709551615 ∧ 0 ≤ S.n ∧ S.n ≤ 18446744073709551615 := by
      intro i hi
      obtain ⟨c0, c1, t0, t1⟩ := hx i (by omega)
      obtain ⟨i0, e0, _, w0⟩ := DataW.trod_int Try.underlying22 t0
      obtain ⟨i1, e1, _, w1⟩ := DataW.trod_int Try.underlying22 t1
      simp at e0 e1
      rw [e0] at c0
      rw [e1] at c1
      obtain ⟨b0, b1⟩ := bounds_u64 w0
      obtain ⟨b2, b3⟩ := bounds_u64 w1
      exact ⟨⟨i0, i1⟩, ⟨c0, c1⟩, b0, b1, b2, b3⟩
    obtain ⟨S, hS⟩ := @choose_lt Sp ⟨⟨0, 0⟩⟩ n _ each
    refine ⟨fun i => if i < n then S i else ⟨0, 0⟩, ?_, fun i => ?_, (fun h => by cases h), by omega⟩
    · by_cases h0 : n = 0
      · exact .inl h0
      · obtain ⟨b, off, spot⟩ := x
        have hspot : spot = none := by simpa [Addr.add] using World.cell?_spot (hS 0 (by omega)).1.1
        subst hspot
        refine .inr ⟨b, off, rfl, fun i hi => ?_⟩
        have := (hS i hi).1
        simp only [if_pos hi]
        simpa only [add_plain, Nat.add_assoc] using this
    · by_cases hi : i < n
      · simp only [if_pos hi]; exact (hS i hi).2
      · simp only [if_neg hi]; exact hU0 i

theorem open_runs {a : Option Addr} {n c : Nat} {d : DataW H} {p : List MemPlace} (h : DataW.Trod enc Try.prog W base spare held 49 (.slice a n c) d p) :
    ∃ G, RRow W a n G ∧ NilOk a n ∧ n ≤ maxLen ∧ ∀ i, 0 ≤ (G i).first ∧ (G i).first ≤ 18446744073709551615 ∧ 0 ≤ (G i).term ∧ (G i).term ≤ 18446744073709551615 := by
  obtain ⟨fuel, hf⟩ := h
  rcases open_slice_pairs Try.underlying49 Try.underlying52 cells52 rfl rfl cellsU cellsU hf with ⟨hcs, _⟩ | ⟨x, len, cap, m, k, V0, V1, D0, D1, P0, P1, hcs, _, hl, hm, hmm, _, hx⟩
  · simp [Value.cells] at hcs
    obtain ⟨rfl, rfl, rfl⟩ := hcs
    exact ⟨fun _ => ⟨0, 0⟩, .inl rfl, fun _ => rfl, Nat.zero_le _, fun i => by simp⟩
  · simp [Value.cells] at hcs
    obtain ⟨rfl, rfl, rfl⟩ := hcs
    have hlm : n ≤ m := by rw [hmm]; split <;> omega
    have each : ∀ i, i < n → ∃ S : Rn, (W.cell? (x.add (i * 2)) = some (.int .u64 S.first) ∧ W.cell? (x.add (i * 2 + 1)) = some (.int .u64 S.term)) ∧ 0 ≤ S.first ∧ S.first ≤ 18446744073709551615 ∧ 0 ≤ S.term ∧ S.term ≤ 18446744073709551615 := by
      intro i hi
      obtain ⟨c0, c1, t0, t1⟩ := hx i (by omega)
      obtain ⟨i0, e0, _, w0⟩ := DataW.trod_int Try.underlying22 t0
      obtain ⟨i1, e1, _, w1⟩ := DataW.trod_int Try.underlying22 t1
      simp at e0 e1
      rw [e0] at c0
      rw [e1] at c1
      obtain ⟨b0, b1⟩ := bounds_u64 w0
      obtain ⟨b2, b3⟩ := bounds_u64 w1
      exact ⟨⟨i0, i1⟩, ⟨c0, c1⟩, b0, b1, b2, b3⟩
    obtain ⟨S, hS⟩ := @choose_lt Rn ⟨⟨0, 0⟩⟩ n _ each
    refine ⟨fun i => if i < n then S i else ⟨0, 0⟩, ?_, (fun h => by cases h), by omega, fun i => ?_⟩
    · by_cases h0 : n = 0
      · exact .inl h0
      · obtain ⟨b, off, spot⟩ := x
        have hspot : spot = none := by simpa [Addr.add] using World.cell?_spot (hS 0 (by omega)).1.1
        subst hspot
        refine .inr ⟨b, off, rfl, fun i hi => ?_⟩
        have := (hS i hi).1
        simp only [if_pos hi]
        simpa only [add_plain, Nat.add_assoc] using this
    · by_cases hi : i < n
      · simp only [if_pos hi]; exact (hS i hi).2
      · simp only [if_neg hi]; simp
end
end Go.Proofs.Qxb6617302a

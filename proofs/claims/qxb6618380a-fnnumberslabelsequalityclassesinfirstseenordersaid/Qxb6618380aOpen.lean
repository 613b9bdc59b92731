/-
  FROM THE READING OF AN ARGUMENT TO WHAT THE WALKS ASK: a slice of lines.
-/
import Derived.Test.Qxb6618380aBase
import Derived.ProofKit
import Derived.OpenShut
import Derived.Deep.Matrix
import Derived.Lib.SmallJoins
namespace Go.Proofs.Qxb6618380a
open Go.ChangeShapes Go.WideShapes Go.ChangeAt Go.RowKit Go.Deep Go.Joins
section
variable {H : Type} {enc : TypeId × Value → H} {W : World} {base : Nat} {held : Bool}

theorem cells24 : Try.prog.cellsOf 24 = 1 := by kernel_rfl
theorem cells5 : Try.prog.cellsOf 5 = 1 := by kernel_rfl
theorem u8_wf {n : Int} (h : (Lit.int .u8 n).wf = true) : 0 ≤ n ∧ n ≤ 255 := by
  simp only [Lit.wf, Bool.and_eq_true, decide_eq_true_eq] at h
  have h1 : IntKind.u8.min = 0 := by decide
  have h2 : IntKind.u8.max = 255 := by decide
  rw [h1, h2] at h
  exact h

theorem open_lines {a : Option Addr} {n c : Nat} {d : DataW H} {p : List MemPlace} (h : DataW.Trod enc Try.prog W base (fun _ => true) held 22 (.slice a n c) d p) :
    ∃ L, LRow W a n L ∧ n ≤ maxLen := by
  obtain ⟨fuel, hf⟩ := h
  rcases open_int_rows Try.underlying22 Try.underlying24 Try.underlying5 cells24 cells5 hf with ⟨hcs, _⟩ | ⟨x, l, cp, A, L, C, Z, hcs, _, hl, hm, _, hr⟩
  · simp [Value.cells] at hcs
    obtain ⟨rfl, rfl, rfl⟩ := hcs
    exact ⟨fun _ => ⟨none, 0, 0, []⟩, .inl rfl, Nat.zero_le _⟩
  · simp [Value.cells] at hcs
    obtain ⟨rfl, rfl, rfl⟩ := hcs
    refine ⟨fun i => ⟨A i, L i, C i, (Z i).take (L i)⟩, ?_, by omega⟩
    by_cases h0 : n = 0
    · exact .inl h0
    · obtain ⟨b, off, spot⟩ := x
      have hspot : spot = none := by simpa [Addr.add] using World.cell?_spot (hr 0 (by omega)).1
      subst hspot
      refine .inr ⟨b, off, rfl, fun i hi => ?_⟩
      obtain ⟨e1, r1, r2, r3, r4, r5, r6⟩ := hr i (by omega)
      rw [add_plain] at e1
      refine ⟨e1, ⟨by simp; omega, fun z hz => u8_wf (r4 z (List.mem_of_mem_take hz)), ?_, fun hno => ?_, by show L i ≤ maxLen; omega⟩⟩
      · show L i = 0 ∨ _
        by_cases hL : L i = 0
        · exact .inl hL
        · right
          cases hA : A i with
          | none => have := r5 hA; omega
          | some a' =>
            obtain ⟨_, hc⟩ := r6 a' hA
            obtain ⟨b', off', spot'⟩ := a'
            have hspot : spot' = none := by simpa [Addr.add] using World.cell?_spot (hc 0 (by omega))
            subst hspot
            refine ⟨b', off', hA, fun j hj => ?_⟩
            have hj' : j < L i := hj
            have := hc j (by omega)
            rw [add_plain] at this
            rw [this]
            simp [List.getD, hj']
      · have := r5 hno
        show L i = 0
        omega
end
end Go.Proofs.Qxb6618380a

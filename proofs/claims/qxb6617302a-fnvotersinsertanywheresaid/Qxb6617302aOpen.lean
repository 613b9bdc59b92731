/-
  FROM THE READING OF AN ARGUMENT TO WHAT THE WALKS ASK: slices of members, of numbers.
-/
import Derived.Test.Qxb6617302aBase
import Derived.ProofKit
import Derived.OpenShut
import Derived.Deep.Slices
import Derived.Lib.SmallJoins
namespace Go.Proofs.Qxb6617302a
open Go.ChangeShapes Go.WideShapes Go.ChangeAt Go.RowKit Go.Deep Go.Joins
section
variable {H : Type} {enc : TypeId × Value → H} {W : World} {base : Nat} {spare : Nat → Bool} {held : Bool}

theorem cells22 : Try.prog.cellsOf 22 = 1 := by kernel_rfl
theorem cells9 : Try.prog.cellsOf 9 = 1 := by kernel_rfl
theorem cells4 : Try.prog.cellsOf 4 = 1 := by kernel_rfl
theorem cells26 : Try.prog.cellsOf 26 = 4 := by kernel_rfl

theorem open_members {a : Option Addr} {n c : Nat} {d : DataW H} {p : List MemPlace} (h : DataW.Trod enc Try.prog W base spare held 23 (.slice a n c) d p) :
    ∃ M, MRow W a n M ∧ NilOk a n ∧ n ≤ maxLen := by
  obtain ⟨fuel, hf⟩ := h
  rcases open_slice Try.underlying23 hf with ⟨hcs, _⟩ | ⟨x, len, cap, m, k, D, Pl, hcs, _, hl, hm, hmm, _, hx⟩
  · simp [Value.cells] at hcs
    obtain ⟨rfl, rfl, rfl⟩ := hcs
    exact ⟨fun _ => ⟨0, ByteArray.empty, 0, false⟩, .inl rfl, fun _ => rfl, Nat.zero_le _⟩
  · simp [Value.cells] at hcs
    obtain ⟨rfl, rfl, rfl⟩ := hcs
    have hlm : n ≤ m := by rw [hmm]; split <;> omega
    have each : ∀ i, i < n → ∃ M : Mb, W.cell? (x.add (i * 4)) = some (.int .u64 M.id) ∧ W.cell? (x.add (i * 4 + 1)) = some (.string M.addr) ∧ W.cell? (x.add (i * 4 + 2)) = some (.int .u64 M.inc) ∧ W.cell? (x.add (i * 4 + 3)) = some (.bool M.lrn) := by
      intro i hi
      obtain ⟨cs', h1, h2⟩ := hx i (by omega)
      rw [cells26] at h1
      obtain ⟨_, hlen, hcell⟩ := World.cells?_some h1
      obtain ⟨y0, y1, y2, y3, q, _, _, t0, t1, t2, t3⟩ := trod_struct4 Try.underlying26 h2
      match cs', hlen with
      | [v0, v1, v2, v3], _ =>
      simp [cells22, cells9, cells4] at t0 t1 t2 t3
      obtain ⟨i0, e0, _⟩ := DataW.trod_int Try.underlying22 t0
      obtain ⟨s1, e1, _⟩ := DataW.trod_string Try.underlying9 t1
      obtain ⟨i2, e2, _⟩ := DataW.trod_int Try.underlying22 t2
      obtain ⟨b3, e3, _⟩ := DataW.trod_bool Try.underlying4 t3
      simp at e0 e1 e2 e3
      subst e0 e1 e2 e3
      have c0 := hcell 0 (by omega)
      have c1 := hcell 1 (by omega)
      have c2 := hcell 2 (by omega)
      have c3 := hcell 3 (by omega)
      rw [add_add] at c0 c1 c2 c3
      exact ⟨⟨i0, s1, i2, b3⟩, by simpa using c0, by simpa using c1, by simpa using c2, by simpa using c3⟩
    obtain ⟨M, hM⟩ := @choose_lt Mb ⟨⟨0, ByteArray.empty, 0, false⟩⟩ n _ each
    refine ⟨M, ?_, (fun h => by cases h), by omega⟩
    by_cases h0 : n = 0
    · exact .inl h0
    · obtain ⟨b, off, spot⟩ := x
      have hspot : spot = none := by simpa [Addr.add] using World.cell?_spot (hM 0 (by omega)).1
      subst hspot
      refine .inr ⟨b, off, rfl, fun i hi => ?_⟩
      have := hM i hi
      simpa only [add_plain, Nat.add_assoc] using this

theorem open_nums {a : Option Addr} {n c : Nat} {d : DataW H} {p : List MemPlace} (h : DataW.Trod enc Try.prog W base spare held 24 (.slice a n c) d p) :
    ∃ U, URow W a n U ∧ NilOk a n ∧ n ≤ maxLen := by
  obtain ⟨fuel, hf⟩ := h
  rcases open_ints Try.underlying24 Try.underlying22 cells22 hf with ⟨hcs, _⟩ | ⟨x, l, cp, zs, hcs, _, hl, hm, hz, _, hcell, hwz⟩
  · simp [Value.cells] at hcs
    obtain ⟨rfl, rfl, rfl⟩ := hcs
    exact ⟨fun _ => 0, .inl rfl, fun _ => rfl, Nat.zero_le _⟩
  · simp [Value.cells] at hcs
    obtain ⟨rfl, rfl, rfl⟩ := hcs
    refine ⟨fun i => zs.getD i 0, ?_, (fun h => by cases h), by omega⟩
    have hlm : n ≤ zs.length := by rw [hz]; split <;> omega
    by_cases h0 : n = 0
    · exact .inl h0
    · obtain ⟨b, off, spot⟩ := x
      have hspot : spot = none := by simpa [Addr.add] using World.cell?_spot (hcell 0 (by omega))
      subst hspot
      refine .inr ⟨b, off, rfl, fun i hi => ?_⟩
      have := hcell i (by omega)
      rwa [add_plain] at this
end
end Go.Proofs.Qxb6617302a

/-
  More on prefixes: two of them one behind the other; runs that the call has built; a variable of type Terms.
-/
import Derived.Test.Qxb6617302aPrefix
namespace Go.Proofs.Qxb6617302a
open Go.RowKit

theorem Lead.compose {G : Nat → Rn} {n : Nat} {h1 h2 : Int} {k1 k2 : Nat} (a : Lead G n h1 k1) (b : Lead G k1 h2 k2) (h : h2 ≤ h1) : Lead G n h2 k2 := by
  refine ⟨Nat.le_trans b.le a.le, b.lo, fun hlt => ?_⟩
  by_cases hk : k2 < k1
  · exact b.hi hk
  · have e : k2 = k1 := by have := b.le; omega
    have := a.hi (by omega)
    rw [e]
    omega

theorem own_kept {w w' : World} {base n : Nat} {rv : Value} {cs : List Value} (h : w.ownsRow base 48 2 rv n cs) (hb : Below w.heap.size w w') : w'.ownsRow base 48 2 rv n cs := by
  refine ⟨h.1, ?_⟩
  rcases h.2 with h2 | ⟨g, c', cur, hv, hg1, hg, rest⟩
  · exact .inl h2
  · exact .inr ⟨g, c', cur, hv, hg1, (hb.block g (Array.getElem?_eq_some_iff.1 hg).1).trans hg, rest⟩

/-- Runs that the call has built out of G. -/
theorem own_gl {w : World} {base k : Nat} {rv : Value} {G : Nat → Rn} (h : w.ownsRow base 48 2 rv k (rcells (gl G k))) :
    ∃ ao cap, rv = .slice ao k cap ∧ k ≤ cap ∧ RRow w ao k G ∧ NilOk ao k ∧ (0 < k → ∃ g, ao = some ⟨g, 0, none⟩ ∧ base ≤ g ∧ g < w.heap.size) := by
  rcases h.2 with ⟨hv, h0⟩ | ⟨g, cap, cur, hv, hg1, hg, hle, _⟩
  · exact ⟨none, 0, by rw [h0]; exact hv, by omega, .inl h0, fun _ => h0, fun hp => by omega⟩
  · refine ⟨_, cap, hv, hle, .inr ⟨g, 0, rfl, fun i hi => ?_⟩, (fun h => by cases h), fun _ => ⟨g, rfl, hg1, (Array.getElem?_eq_some_iff.1 hg).1⟩⟩
    rw [Nat.zero_add]
    rw [hv] at h
    have hl := gl_length G k
    have := own_runs (R := gl G k) (w := w) (base := base) (g := g) (cap := cap) (by rw [hl]; exact h) (i := i) (by rw [hl]; exact hi)
    rwa [gl_nth G hi] at this

theorem RRow.at {w : World} {ao : Option Addr} {n : Nat} {G : Nat → Rn} (h : RRow w ao n G) {i : Nat} (hi : i < n) :
    ∃ b off, ao = some ⟨b, off, none⟩ ∧ w.cell? ⟨b, off + i * 2, none⟩ = some (.int .u64 (G i).first) ∧ w.cell? ⟨b, off + i * 2 + 1, none⟩ = some (.int .u64 (G i).term) := by
  rcases h with h | ⟨b, off, h, hc⟩
  · omega
  · exact ⟨b, off, h, hc i hi⟩

/-- What a variable of type Terms holds. -/
def TBox (w : World) (b : Nat) (rv : Value) (hd : Int) : Prop := w.cell? ⟨b, 0, none⟩ = some rv ∧ w.cell? ⟨b, 1, none⟩ = some (.int .u64 hd)
theorem TBox.kept {w w' : World} {b : Nat} {rv : Value} {hd : Int} (h : TBox w b rv hd) (hb : Below w.heap.size w w') : TBox w' b rv hd := ⟨kcell hb h.1, kcell hb h.2⟩
theorem TBox.new (w : World) (rv : Value) (hd : Int) : TBox (w.alloc (.cells #[rv, .int .u64 hd] 40)) w.heap.size rv hd := ⟨by simp, by simp⟩

end Go.Proofs.Qxb6617302a

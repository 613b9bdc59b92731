/-
  SHARED BY ALL LAWS OF THE SEAT: rows of memory as the walks read them; what a world that has only grown keeps of them.
-/
import Derived.Test.Qxb6617302aRows
import Derived.WalkKit
import Derived.WalkSpells
import Derived.Deep.QuietTactic
import Derived.BigQuiet
import Derived.WalkSmall
namespace Go.Proofs.Qxb6617302a
open Go.RowKit

theorem ret_int {k : IntKind} {a b : Int} (h : a = b) : Ending.returned (.int k a) = .returned (.int k b) := by rw [h]
theorem ret_bool {a b : Bool} (h : a = b) : Ending.returned (.bool a) = .returned (.bool b) := by rw [h]
theorem val_int {k : IntKind} {a b : Int} (h : a = b) : Value.int k a = .int k b := by rw [h]

/-! ### Worlds -/
theorem bcell {B : Nat} {w w' : World} (hb : Below B w w') (h : B = w.heap.size) {b o : Nat} {v : Value} (hc : w.cell? ⟨b, o, none⟩ = some v) : w'.cell? ⟨b, o, none⟩ = some v := by
  subst h
  rw [hb.cell (p := ⟨b, o, none⟩) (World.block_lt_of_cell? w ⟨b, o, none⟩ hc)]
  exact hc

/-- What was laid and has not turned since: 'w' has, below its own size, been kept. -/
theorem kcell {w w' : World} (hb : Below w.heap.size w w') {b o : Nat} {v : Value} (hc : w.cell? ⟨b, o, none⟩ = some v) : w'.cell? ⟨b, o, none⟩ = some v := bcell hb rfl hc

/-- Two steps, each of which keeps all that lay at its own start. -/
theorem below_then {w w1 w2 : World} (h1 : Below w.heap.size w w1) (h2 : Below w1.heap.size w1 w2) : Below w.heap.size w w2 := h1.trans (h2.mono h1.size)

/-- A nil slice is empty. -/
def NilOk (a : Option Addr) (n : Nat) : Prop := a = none → n = 0
theorem NilOk.zero {n : Nat} (h : NilOk none n) : n = 0 := h rfl

/-! ### Members (four cells each) -/
structure Mb where
  id : Int
  addr : ByteArray
  inc : Int
  lrn : Bool

/-- The slice at 'ao' has n members, M 0 .. M (n-1). -/
def MRow (w : World) (ao : Option Addr) (n : Nat) (M : Nat → Mb) : Prop :=
  n = 0 ∨ ∃ b off, ao = some ⟨b, off, none⟩ ∧ ∀ i, i < n → w.cell? ⟨b, off + i * 4, none⟩ = some (.int .u64 (M i).id) ∧ w.cell? ⟨b, off + i * 4 + 1, none⟩ = some (.string (M i).addr) ∧ w.cell? ⟨b, off + i * 4 + 2, none⟩ = some (.int .u64 (M i).inc) ∧ w.cell? ⟨b, off + i * 4 + 3, none⟩ = some (.bool (M i).lrn)

theorem MRow.kept {w w' : World} {ao : Option Addr} {n : Nat} {M : Nat → Mb} (h : MRow w ao n M) (hb : Below w.heap.size w w') : MRow w' ao n M := by
  rcases h with h | ⟨b, off, h, hc⟩
  · exact .inl h
  · exact .inr ⟨b, off, h, fun i hi => ⟨kcell hb (hc i hi).1, kcell hb (hc i hi).2.1, kcell hb (hc i hi).2.2.1, kcell hb (hc i hi).2.2.2⟩⟩

/-! ### Numbers (one cell each) -/
def URow (w : World) (ao : Option Addr) (n : Nat) (U : Nat → Int) : Prop :=
  n = 0 ∨ ∃ b off, ao = some ⟨b, off, none⟩ ∧ ∀ i, i < n → w.cell? ⟨b, off + i, none⟩ = some (.int .u64 (U i))

theorem URow.kept {w w' : World} {ao : Option Addr} {n : Nat} {U : Nat → Int} (h : URow w ao n U) (hb : Below w.heap.size w w') : URow w' ao n U := by
  rcases h with h | ⟨b, off, h, hc⟩
  · exact .inl h
  · exact .inr ⟨b, off, h, fun i hi => kcell hb (hc i hi)⟩

/-- A slice of numbers that the call has built. -/
theorem URow.of_owns {w : World} {base e n : Nat} {v : Value} {xs : List Int} (h : w.ownsRow base e 1 v n (xs.map (Value.int .u64))) :
    ∃ ao cap, v = .slice ao n cap ∧ n = xs.length ∧ n ≤ maxLen ∧ URow w ao n (fun i => xs.getD i 0) := by
  have hl : n = xs.length := by have := h.1; simp at this; omega
  rcases h.2 with ⟨rfl, rfl⟩ | ⟨g, cap, cur, rfl, hb, hg, hle, hm, hcs, ht⟩
  · exact ⟨none, 0, rfl, hl, Nat.zero_le _, .inl rfl⟩
  · refine ⟨_, cap, rfl, hl, by omega, .inr ⟨g, 0, rfl, fun i hi => ?_⟩⟩
    rw [Nat.zero_add, World.ownsRow.cellAt h i (by omega)]
    simp [List.getElem?_map, List.getElem?_eq_getElem (show i < xs.length by omega), List.getD]

end Go.Proofs.Qxb6617302a

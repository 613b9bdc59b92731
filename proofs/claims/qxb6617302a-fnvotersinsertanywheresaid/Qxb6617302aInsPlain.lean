/-
  THE PLAIN LAW of 'FnVotersInsertAnywhere': no Go in sight; and rows of members built by append.
-/
import Derived.Test.Qxb6617302aVoters
namespace Go.Proofs.Qxb6617302a
open Go.RowKit

/-- The members with X put in at place p. -/
def insM (M : Nat → Mb) (p : Nat) (X : Mb) : Nat → Mb := fun i => if i < p then M i else if i = p then X else M (i - 1)
def shiftM (M : Nat → Mb) (p : Nat) : Nat → Mb := fun i => M (p + i)

theorem vot_congr {M N : Nat → Mb} : ∀ k, (∀ i, i < k → M i = N i) → vot M k = vot N k
  | 0, _ => rfl
  | k + 1, h => by rw [vot, vot, vot_congr k (fun i hi => h i (by omega)), h k (by omega)]

theorem vot_add (M : Nat → Mb) (p : Nat) : ∀ d, vot M (p + d) = vot M p ++ vot (shiftM M p) d
  | 0 => by simp [vot]
  | d + 1 => by
    show vot M (p + d + 1) = _
    rw [vot, vot, vot_add M p d]
    by_cases hL : (M (p + d)).lrn = true
    · have : (shiftM M p d).lrn = true := hL
      rw [if_pos hL, if_pos this]
    · have : ¬ (shiftM M p d).lrn = true := hL
      rw [if_neg hL, if_neg this, List.append_assoc]
      rfl

/-- What x adds to the voters. -/
def oneV (X : Mb) : List Int := if X.lrn then [] else [X.id]

theorem vot_plain {M : Nat → Mb} {p n : Nat} (h : p ≤ n) : vot M n = vot M p ++ vot (shiftM M p) (n - p) := by
  have := vot_add M p (n - p)
  rwa [show p + (n - p) = n by omega] at this

theorem vot_ins {M : Nat → Mb} {p n : Nat} {X : Mb} (h : p ≤ n) : vot (insM M p X) (n + 1) = (vot M p ++ oneV X) ++ vot (shiftM M p) (n - p) := by
  have h1 := vot_plain (M := insM M p X) (show p + 1 ≤ n + 1 by omega)
  have h2 : vot (shiftM (insM M p X) (p + 1)) (n + 1 - (p + 1)) = vot (shiftM M p) (n - p) := by
    rw [show n + 1 - (p + 1) = n - p by omega]
    refine vot_congr _ fun i hi => ?_
    unfold shiftM insM
    rw [if_neg (by omega), if_neg (by omega)]
    congr 1
    omega
  have h3 : vot (insM M p X) (p + 1) = vot M p ++ oneV X := by
    have e : insM M p X p = X := by unfold insM; rw [if_neg (by omega), if_pos rfl]
    have e2 : vot (insM M p X) p = vot M p := vot_congr _ fun i hi => by unfold insM; rw [if_pos hi]
    rw [vot, e, e2, oneV]
    split <;> simp
  rw [h1, h2, h3]

/-! ### Members built by append -/
def Mb.vals (X : Mb) : List Value := [.int .u64 X.id, .string X.addr, .int .u64 X.inc, .bool X.lrn]
def mcells (M : Nat → Mb) : Nat → List Value
  | 0 => []
  | k + 1 => mcells M k ++ (M k).vals

theorem mcells_length (M : Nat → Mb) : ∀ k, (mcells M k).length = k * 4
  | 0 => rfl
  | k + 1 => by rw [mcells, List.length_append, mcells_length M k]; simp [Mb.vals]; omega

theorem mcells_at (M : Nat → Mb) (i j : Nat) (hj : j < 4) : ∀ k, i < k → (mcells M k)[i * 4 + j]? = (M i).vals[j]?
  | 0, h => by omega
  | k + 1, h => by
    rw [mcells]
    by_cases he : i = k
    · subst he
      rw [List.getElem?_append_right (by rw [mcells_length]; omega), mcells_length]
      congr 1
      omega
    · rw [List.getElem?_append_left (by rw [mcells_length]; omega), mcells_at M i j hj k (by omega)]

theorem MRow.of_mcells {w : World} {base e g n cap : Nat} {M : Nat → Mb} (h : w.ownsRow base e 4 (.slice (some ⟨g, 0, none⟩) n cap) n (mcells M n)) : MRow w (some ⟨g, 0, none⟩) n M := by
  refine .inr ⟨g, 0, rfl, fun i hi => ?_⟩
  rw [Nat.zero_add]
  refine ⟨?_, ?_, ?_, ?_⟩
  · have := h.cellAt (i * 4 + 0) (by omega); rw [mcells_at M i 0 (by omega) n hi] at this; exact this
  · have := h.cellAt (i * 4 + 1) (by omega); rw [mcells_at M i 1 (by omega) n hi] at this; exact this
  · have := h.cellAt (i * 4 + 2) (by omega); rw [mcells_at M i 2 (by omega) n hi] at this; exact this
  · have := h.cellAt (i * 4 + 3) (by omega); rw [mcells_at M i 3 (by omega) n hi] at this; exact this

/-! ### A member in a box -/
def XBox (w : World) (b : Nat) (X : Mb) : Prop :=
  w.cell? ⟨b, 0, none⟩ = some (.int .u64 X.id) ∧ w.cell? ⟨b, 1, none⟩ = some (.string X.addr) ∧ w.cell? ⟨b, 2, none⟩ = some (.int .u64 X.inc) ∧ w.cell? ⟨b, 3, none⟩ = some (.bool X.lrn)
theorem XBox.kept {w w' : World} {b : Nat} {X : Mb} (h : XBox w b X) (hb : Below w.heap.size w w') : XBox w' b X := ⟨kcell hb h.1, kcell hb h.2.1, kcell hb h.2.2.1, kcell hb h.2.2.2⟩

/-! ### The tail of a slice of members -/
theorem MRow.tail {w : World} {a : Option Addr} {n c p : Nat} {M : Nat → Mb} (h : MRow w a n M) (hp : p ≤ n) (hc : n ≤ c) :
    MRow w (if c = p then a else Option.map (fun x => x.add (p * 4)) a) (n - p) (shiftM M p) := by
  by_cases h0 : n - p = 0
  · exact .inl h0
  · rcases h with h | ⟨b, off, rfl, hx⟩
    · omega
    · rw [if_neg (by omega)]
      refine .inr ⟨b, off + p * 4, ?_, fun i hi => ?_⟩
      · unfold Addr.add
        by_cases hp0 : p * 4 = 0 <;> simp [hp0]
      · have := hx (p + i) (by omega)
        rw [show off + p * 4 + i * 4 = off + (p + i) * 4 by omega]
        exact this

theorem MRow.head {w : World} {a : Option Addr} {n p : Nat} {M : Nat → Mb} (h : MRow w a n M) (hp : p ≤ n) : MRow w a p M := by
  by_cases h0 : p = 0
  · exact .inl h0
  · rcases h with h | ⟨b, off, rfl, hx⟩
    · omega
    · exact .inr ⟨b, off, rfl, fun i hi => hx i (by omega)⟩

theorem NilOk.tail {a : Option Addr} {n c p : Nat} (h : NilOk a n) : NilOk (if c = p then a else Option.map (fun x => x.add (p * 4)) a) (n - p) := by
  cases a with
  | none => intro _; have := h rfl; omega
  | some x => intro hx; split at hx <;> simp at hx
theorem NilOk.head {a : Option Addr} {n p : Nat} (h : NilOk a n) (hp : p ≤ n) : NilOk a p := fun e => by have := h e; omega

end Go.Proofs.Qxb6617302a

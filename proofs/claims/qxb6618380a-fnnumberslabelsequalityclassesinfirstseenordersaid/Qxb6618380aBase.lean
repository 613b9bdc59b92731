/-
  Lines (slices of bytes) as the walks read them; a line as a map's key; the map that numbers them.
-/
import Derived.Test.Qxb6618380aRows
import Derived.WalkKit
import Derived.WalkSpells
import Derived.WalkSmall
import Derived.Deep.QuietTactic
import Derived.BigQuiet
import Derived.Maps.Own
import Derived.Maps.OwnOps
import Derived.Maps.OwnSet
import Derived.Maps.Views
namespace Go.Proofs.Qxb6618380a
open Go.RowKit Go.Maps

theorem ret_bool {a b : Bool} (h : a = b) : Ending.returned (.bool a) = .returned (.bool b) := by rw [h]
theorem val_int {k : IntKind} {a b : Int} (h : a = b) : Value.int k a = .int k b := by rw [h]

/-! ### Worlds -/
theorem kcell {w w' : World} (hb : Below w.heap.size w w') {b o : Nat} {v : Value} (hc : w.cell? ⟨b, o, none⟩ = some v) : w'.cell? ⟨b, o, none⟩ = some v := by
  rw [hb.cell (p := ⟨b, o, none⟩) (World.block_lt_of_cell? w ⟨b, o, none⟩ hc)]
  exact hc
theorem below_then {w w1 w2 : World} (h1 : Below w.heap.size w w1) (h2 : Below w1.heap.size w1 w2) : Below w.heap.size w w2 := h1.trans (h2.mono h1.size)
def NilOk (a : Option Addr) (n : Nat) : Prop := a = none → n = 0
theorem NilOk.zero {n : Nat} (h : NilOk none n) : n = 0 := h rfl

/-- Nothing that was there has turned but block B (a map); there may be new blocks. -/
structure MKept (w w' : World) (B : Nat) : Prop where
  os : w'.os = w.os
  tape : w'.tape = w.tape
  output : w'.output = w.output
  size : w.heap.size ≤ w'.heap.size
  block : ∀ k, k < w.heap.size → k ≠ B → w'.heap[k]? = w.heap[k]?
theorem MKept.refl (w : World) (B : Nat) : MKept w w B := ⟨rfl, rfl, rfl, Nat.le_refl _, fun _ _ _ => rfl⟩
theorem MKept.trans {w w1 w2 : World} {B : Nat} (h : MKept w w1 B) (k : MKept w1 w2 B) : MKept w w2 B :=
  ⟨k.os.trans h.os, k.tape.trans h.tape, k.output.trans h.output, Nat.le_trans h.size k.size, fun i hi hB => (k.block i (by have := h.size; omega) hB).trans (h.block i hi hB)⟩
theorem MKept.of_below {w w' : World} {B : Nat} (h : Below w.heap.size w w') : MKept w w' B := ⟨h.os, h.tape, h.output, h.size, fun k hk _ => h.block k hk⟩
theorem MKept.grown {w w' : World} {B : Nat} {row : Option Nat} (h : w.grownBy w' row) (hr : ∀ k, row = some k → k = B ∨ w.heap.size ≤ k) : MKept w w' B :=
  ⟨h.os, h.tape, h.output, h.size, fun k hk hB => h.block k hk (fun e => by rcases hr k e.symm with h | h <;> omega)⟩
theorem MKept.below {w w' : World} {B C : Nat} (h : MKept w w' B) (hC : C ≤ B) (h2 : C ≤ w.heap.size) : Below C w w' := ⟨h.os, h.tape, h.output, h.size, fun k hk => h.block k (by omega) (by omega)⟩

/-- Block B is a map. -/
def IsMapAt (w : World) (B : Nat) : Prop := ∃ es clock, w.heap[B]? = some (.map es clock)
theorem no_cell {w : World} {B o : Nat} {v : Value} (h : IsMapAt w B) (hc : w.cell? ⟨B, o, none⟩ = some v) : False := by
  obtain ⟨es, clock, hb⟩ := h
  simp [World.cell?, hb] at hc
theorem MKept.cell {w w' : World} {B b o : Nat} {v : Value} (h : MKept w w' B) (hM : IsMapAt w B) (hc : w.cell? ⟨b, o, none⟩ = some v) : w'.cell? ⟨b, o, none⟩ = some v := by
  have hne : b ≠ B := fun e => no_cell hM (e ▸ hc)
  rw [World.cell?_of_block (w := w) (h.block b (World.block_lt_of_cell? w ⟨b, o, none⟩ hc) hne)]
  exact hc

/-! ### Lines -/
structure Ln where
  ao : Option Addr
  len : Nat
  cap : Nat
  bs : List Int

structure LnOk (w : World) (l : Ln) : Prop where
  long : l.bs.length = l.len
  byte : ∀ x ∈ l.bs, 0 ≤ x ∧ x ≤ 255
  cell : l.len = 0 ∨ ∃ b off, l.ao = some ⟨b, off, none⟩ ∧ ∀ j, j < l.len → w.cell? ⟨b, off + j, none⟩ = some (.int .u8 (l.bs.getD j 0))
  nil : NilOk l.ao l.len
  max : l.len ≤ maxLen

def LRow (w : World) (ao : Option Addr) (n : Nat) (L : Nat → Ln) : Prop :=
  n = 0 ∨ ∃ b off, ao = some ⟨b, off, none⟩ ∧ ∀ i, i < n → w.cell? ⟨b, off + i, none⟩ = some (.slice (L i).ao (L i).len (L i).cap) ∧ LnOk w (L i)

theorem LnOk.carry {w w' : World} {l : Ln} (h : LnOk w l) (hc : ∀ b o v, w.cell? ⟨b, o, none⟩ = some v → w'.cell? ⟨b, o, none⟩ = some v) : LnOk w' l := by
  refine ⟨h.long, h.byte, ?_, h.nil, h.max⟩
  rcases h.cell with h0 | ⟨b, off, e, hx⟩
  · exact .inl h0
  · exact .inr ⟨b, off, e, fun j hj => hc _ _ _ (hx j hj)⟩
theorem LRow.carry {w w' : World} {ao : Option Addr} {n : Nat} {L : Nat → Ln} (h : LRow w ao n L) (hc : ∀ b o v, w.cell? ⟨b, o, none⟩ = some v → w'.cell? ⟨b, o, none⟩ = some v) : LRow w' ao n L := by
  rcases h with h0 | ⟨b, off, e, hx⟩
  · exact .inl h0
  · exact .inr ⟨b, off, e, fun i hi => ⟨hc _ _ _ (hx i hi).1, (hx i hi).2.carry hc⟩⟩
theorem LRow.kept {w w' : World} {ao : Option Addr} {n : Nat} {L : Nat → Ln} (h : LRow w ao n L) (hb : Below w.heap.size w w') : LRow w' ao n L := h.carry fun _ _ _ hv => kcell hb hv
theorem LRow.mkept {w w' : World} {B : Nat} {ao : Option Addr} {n : Nat} {L : Nat → Ln} (h : LRow w ao n L) (hb : MKept w w' B) (hM : IsMapAt w B) : LRow w' ao n L := h.carry fun _ _ _ hv => hb.cell hM hv
theorem LnOk.kept {w w' : World} {l : Ln} (h : LnOk w l) (hb : Below w.heap.size w w') : LnOk w' l := h.carry fun _ _ _ hv => kcell hb hv
theorem LRow.at {w : World} {ao : Option Addr} {n : Nat} {L : Nat → Ln} (h : LRow w ao n L) {i : Nat} (hi : i < n) :
    ∃ b off, ao = some ⟨b, off, none⟩ ∧ w.cell? ⟨b, off + i, none⟩ = some (.slice (L i).ao (L i).len (L i).cap) ∧ LnOk w (L i) := by
  rcases h with h | ⟨b, off, h, hc⟩
  · omega
  · exact ⟨b, off, h, hc i hi⟩

/-! ### Numbers -/
def IRow (w : World) (ao : Option Addr) (n : Nat) (U : Nat → Int) : Prop :=
  n = 0 ∨ ∃ b off, ao = some ⟨b, off, none⟩ ∧ ∀ i, i < n → w.cell? ⟨b, off + i, none⟩ = some (.int .i64 (U i))
theorem IRow.carry {w w' : World} {ao : Option Addr} {n : Nat} {U : Nat → Int} (h : IRow w ao n U) (hc : ∀ b o v, w.cell? ⟨b, o, none⟩ = some v → w'.cell? ⟨b, o, none⟩ = some v) : IRow w' ao n U := by
  rcases h with h0 | ⟨b, off, e, hx⟩
  · exact .inl h0
  · exact .inr ⟨b, off, e, fun i hi => hc _ _ _ (hx i hi)⟩
theorem IRow.kept {w w' : World} {ao : Option Addr} {n : Nat} {U : Nat → Int} (h : IRow w ao n U) (hb : Below w.heap.size w w') : IRow w' ao n U := h.carry fun _ _ _ hv => kcell hb hv
theorem IRow.at {w : World} {ao : Option Addr} {n : Nat} {U : Nat → Int} (h : IRow w ao n U) {i : Nat} (hi : i < n) : ∃ b off, ao = some ⟨b, off, none⟩ ∧ w.cell? ⟨b, off + i, none⟩ = some (.int .i64 (U i)) := by
  rcases h with h | ⟨b, off, h, hc⟩
  · omega
  · exact ⟨b, off, h, hc i hi⟩

/-! ### A line as a key -/
def bkey (bs : List Int) : ByteArray := bs.foldl (fun r n => r.push (UInt8.ofNat n.toNat)) ByteArray.empty
theorem push_data (bs : List Int) : ∀ r : ByteArray, (bs.foldl (fun r n => r.push (UInt8.ofNat n.toNat)) r).data.toList = r.data.toList ++ bs.map fun n => UInt8.ofNat n.toNat := by
  induction bs with
  | nil => intro r; simp
  | cons x bs ih => intro r; rw [List.foldl_cons, ih]; simp [ByteArray.push]
/-- The key as the map reads it. -/
def kb (bs : List Int) : List UInt8 := bs.map fun n => UInt8.ofNat n.toNat
theorem bkey_data (bs : List Int) : (bkey bs).data.toList = kb bs := by
  unfold bkey kb; rw [push_data]; simp
theorem bkey_size (bs : List Int) : (bkey bs).size = bs.length := by
  have h1 : (bkey bs).size = (bkey bs).data.toList.length := by simp
  rw [h1, bkey_data]; simp [kb]
theorem kb_inj : ∀ {x y : List Int}, (∀ a ∈ x, 0 ≤ a ∧ a ≤ 255) → (∀ a ∈ y, 0 ≤ a ∧ a ≤ 255) → kb x = kb y → x = y
  | [], [], _, _, _ => rfl
  | [], b :: y, _, _, h => by simp [kb] at h
  | a :: x, [], _, _, h => by simp [kb] at h
  | a :: x, b :: y, hx, hy, h => by
    simp only [kb, List.map_cons, List.cons.injEq] at h
    have e : x = y := kb_inj (fun c hc => hx c (by simp [hc])) (fun c hc => hy c (by simp [hc])) h.2
    have ha := hx a (by simp)
    have hb := hy b (by simp)
    have h1 := congrArg UInt8.toNat h.1
    rw [UInt8.toNat_ofNat', UInt8.toNat_ofNat'] at h1
    have : a = b := by omega
    rw [this, e]

theorem conv_line {w : World} {l : Ln} (h : LnOk w l) : (convert 24 9 (.slice l.ao l.len l.cap)).run Try.prog w = .ok (.string (bkey l.bs)) w := by
  rw [run_convert_bytes_string _ 24 9 5 _ _ _ Try.underlying24 Try.underlying5 Try.underlying9]
  cases hao : l.ao with
  | none =>
    have h0 : l.len = 0 := h.nil hao
    have hb : l.bs = [] := List.eq_nil_of_length_eq_zero (h.long.trans h0)
    rw [hb, h0]
    rfl
  | some ad =>
    rw [run_bytesToString _ _ _ _ l.bs]
    · rfl
    · have hl : l.len = (l.bs.map (Value.int .u8)).length := by simp [h.long]
      rw [hl]
      refine run_loadCells_list w ad _ ?_
      intro j v hj
      rcases h.cell with h0 | ⟨b, off, e, hx⟩
      · have hb : l.bs = [] := List.eq_nil_of_length_eq_zero (h.long.trans h0)
        rw [hb] at hj; simp at hj
      · obtain rfl : ad = ⟨b, off, none⟩ := by rw [hao] at e; simpa using e
        have hjl : j < l.bs.length := by
          by_cases h1 : j < l.bs.length
          · exact h1
          · rw [List.getElem?_eq_none (by simp; omega)] at hj; cases hj
        have := hx j (by rw [← h.long]; exact hjl)
        have ea : (⟨b, off, none⟩ : Addr).add j = ⟨b, off + j, none⟩ := by unfold Addr.add; by_cases h0 : j = 0 <;> simp [h0]
        rw [ea, this]
        rw [List.getElem?_map, List.getElem?_eq_getElem hjl] at hj
        simp [List.getD, List.getElem?_eq_getElem hjl]
        simpa using hj

end Go.Proofs.Qxb6618380a

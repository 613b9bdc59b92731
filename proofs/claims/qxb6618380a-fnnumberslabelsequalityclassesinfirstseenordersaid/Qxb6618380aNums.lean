/-
  The walk of numbers, and of the word that hands it out.
-/
import Derived.Test.Qxb6618380aSmall
namespace Go.Proofs.Qxb6618380a
open Go.RowKit Go.Maps

/-- What numbers hands back. -/
structure Nums (w w' : World) (n m : Nat) (L M : Nat → Ln) (g h : Nat) : Prop where
  bel : Below w.heap.size w w'
  left : IRow w' (some ⟨g, 0, none⟩) n (lab [] (keyOfLine L))
  right : IRow w' (some ⟨h, 0, none⟩) m (lab (accs [] (keyOfLine L) n) (keyOfLine M))

set_option maxHeartbeats 1000000 in
theorem numbers_any (a b : Option Addr) (n c m d : Nat) (L M : Nat → Ln) (w : World) (hn : n ≤ 65536) (hm : m ≤ 65536) (ha : LRow w a n L) (hb : LRow w b m M) :
   Calls Try.prog 9 #[.slice a n c, .slice b m d] w fun e w' => ∃ g h, e = .returned (.tuple #[.slice (some ⟨g, 0, none⟩) n n, .slice (some ⟨h, 0, none⟩) m m, .int .i64 (accs (accs [] (keyOfLine L) n) (keyOfLine M) m).length]) ∧ Nums w w' n m L M g h := by
  have hmm := @run_makeMap Try.prog
  obtain ⟨W2, hW2⟩ : ∃ W2, Hid ((w.alloc (.map #[] 0)).alloc (.cells #[.map (some w.heap.size)] 31) = W2) := ⟨_, rfl⟩
  have hs2 : W2.heap.size = w.heap.size + 2 := by rw [← hW2.out]; simp
  have hbe : Below w.heap.size w W2 := by rw [← hW2.out]; exact ((Below.refl _ _).alloc (Nat.le_refl _) _).alloc (by simp) _
  have hM0 : MapAt W2 w.heap.size [] := by rw [← hW2.out]; exact ⟨_, (World.ownsMap_made w Try.prog 9 (plainElem Try.prog 3)).alloc _, mapIs_nil⟩
  have hcell : W2.cell? ⟨w.heap.size + 1, 0, none⟩ = some (.map (some w.heap.size)) := by rw [← hW2.out]; simp [World.cell?, World.alloc, -World.alloc_eq, Array.getElem_push]
  have hla := ha.kept hbe
  have hlb := hb.kept hbe
  have hIs := hM0.isMap
  obtain ⟨F1, hF1⟩ : ∃ F, Hid (accs [] (keyOfLine L) n = F) := ⟨_, rfl⟩
  have hl1 : F1.length ≤ n := by rw [← hF1.out]; have := accs_len [] (keyOfLine L) n; simpa using this
  go_enter Try.func9, Try.ntmps9
  go_wp2_with (fail)
  rw [hW2.out]
  refine (number_any (w.heap.size + 1) w.heap.size a n c L [] W2 hn (by simp) hla hcell hM0).mono ?_
  rintro e w1 ⟨g1, rfl, hg1, hg1', hI1, hM1, hk1⟩
  rw [hF1.out] at hM1
  have hcell1 := hk1.cell hIs hcell
  have hIs1 := hM1.isMap
  have hlb1 := hlb.mkept hk1 hIs
  go_wp2_with (fail)
  refine (number_any (w.heap.size + 1) w.heap.size b m d M F1 w1 hm (by omega) hlb1 hcell1 hM1).mono ?_
  rintro e w2 ⟨g2, rfl, hg2, hg2', hI2, hM2, hk2⟩
  have hcell2 := hk2.cell hIs1 hcell1
  obtain ⟨D, hD, hI⟩ := hM2
  have hsz := hI.size
  go_wp2_with (at_len; refine wpList_len_own _ rfl _ 31 rfl 9 3 Try.underlying31 _ w.heap.size _ D rfl hD ?_)
  go_ret3
  refine ⟨g1, g2, by rw [hF1.out]; rfl, ?_, ?_, ?_⟩
  · exact hbe.trans ((hk1.below (Nat.le_refl _) (by omega)).trans (hk2.below (Nat.le_refl _) (by have := hk1.size; omega)))
  · exact hI1.carry fun _ _ _ hv => hk2.cell hIs1 hv
  · rw [hF1.out]; exact hI2

theorem zznumbers_any (a b : Option Addr) (n c m d : Nat) (L M : Nat → Ln) (w : World) (hn : n ≤ 65536) (hm : m ≤ 65536) (ha : LRow w a n L) (hb : LRow w b m M) :
   Calls Try.prog 5 #[.slice a n c, .slice b m d] w fun e w' => ∃ g h, e = .returned (.tuple #[.slice (some ⟨g, 0, none⟩) n n, .slice (some ⟨h, 0, none⟩) m m, .int .i64 (accs (accs [] (keyOfLine L) n) (keyOfLine M) m).length]) ∧ Nums w w' n m L M g h := by
  go_enter Try.func5, Try.ntmps5
  go_wp2_with (fail)
  refine (numbers_any a b n c m d L M w hn hm ha hb).mono ?_
  rintro e w1 ⟨g, h, rfl, hN⟩
  go_wp2_with (fail)
  go_ret3
  exact ⟨g, h, rfl, hN⟩
end Go.Proofs.Qxb6618380a

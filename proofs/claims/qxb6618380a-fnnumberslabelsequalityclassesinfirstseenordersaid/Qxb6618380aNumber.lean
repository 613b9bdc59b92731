import Derived.Test.Qxb6618380aSeen
/- The closure that numbers the lines of one side: its walk. -/
namespace Go.Proofs.Qxb6618380a
open Go.RowKit Go.Maps

theorem info3 : (Try.prog.info? 3).map (fun i => (i.zero, i.size, i.bytes)) = some (some (.int .i64 0), 1, 8) := by kernel_rfl
theorem law9 : Keyed Try.prog 9 := string_keyed Try.underlying9
theorem zero3 (w : World) : (zeroValue 3).run Try.prog w = .ok (.int .i64 0) w := by kernel_rfl

/-- A row of n numbers of the call's own, the first k of which are U 0 .. U (k-1). -/
def FilledI (w : World) (base g n : Nat) (U : Nat → Int) (k : Nat) : Prop :=
  ∃ xs : List Value, w.ownsRow base 3 1 (.slice (some ⟨g, 0, none⟩) n n) n xs ∧ ∀ i, i < k → xs[i]? = some (.int .i64 (U i))
theorem FilledI.start {w : World} {base g n : Nat} {U : Nat → Int} {xs : List Value} (h : w.ownsRow base 3 1 (.slice (some ⟨g, 0, none⟩) n n) n xs) : FilledI w base g n U 0 := ⟨xs, h, fun _ hi => absurd hi (Nat.not_lt_zero _)⟩
theorem FilledI.old {w : World} {base g n : Nat} {U : Nat → Int} {k j : Nat} (h : FilledI w base g n U k) (hj : j < n) : (∃ v, w.cell? ⟨g, j, none⟩ = some v) ∧ w.frozen? ⟨g, j, none⟩ = false := by
  obtain ⟨xs, ho, hx⟩ := h
  have hl : xs.length = n := by have := ho.1; omega
  refine ⟨⟨xs[j]'(by rw [hl]; exact hj), ?_⟩, ho.frozenAt _⟩
  rw [ho.cellAt _ (by omega)]
  exact List.getElem?_eq_getElem _
theorem FilledI.step {w : World} {base g n : Nat} {U : Nat → Int} {k : Nat} (h : FilledI w base g n U k) (hk : k < n) : FilledI (w.setCell ⟨g, k, none⟩ (.int .i64 (U k))) base g n U (k + 1) := by
  obtain ⟨xs, ho, hx⟩ := h
  have hl : xs.length = n := by have := ho.1; omega
  refine ⟨_, (ho.stored _ _).1, fun i hi => ?_⟩
  simp only [List.getElem?_set]
  by_cases he : i = k
  · subst he
    rw [if_pos rfl, if_pos (by omega)]
  · rw [if_neg (by omega)]; exact hx i (by omega)
theorem FilledI.kept {w w' : World} {base g n : Nat} {U : Nat → Int} {k : Nat} {row : Option Nat} (h : FilledI w base g n U k) (hg : w.grownBy w' row) (hne : some g ≠ row) : FilledI w' base g n U k := by
  obtain ⟨xs, ho, hx⟩ := h
  exact ⟨xs, ho.kept hg (.inr hne), hx⟩
theorem FilledI.row {w : World} {base g n : Nat} {U : Nat → Int} (h : FilledI w base g n U n) : IRow w (some ⟨g, 0, none⟩) n U := by
  obtain ⟨xs, ho, hx⟩ := h
  exact .inr ⟨g, 0, rfl, fun i hi => by rw [Nat.zero_add, ho.cellAt _ (by omega)]; exact hx i hi⟩

/-- The map at block B numbers acc. -/
def MapAt (w : World) (B : Nat) (acc : List (List UInt8)) : Prop := ∃ D : DataW Unit, w.ownsMap Try.prog 9 (plainElem Try.prog 3) B acc.length D ∧ MapIs D acc
theorem MapAt.isMap {w : World} {B : Nat} {acc : List (List UInt8)} (h : MapAt w B acc) : IsMapAt w B := by
  obtain ⟨D, ⟨es, clock, hb, _⟩, _⟩ := h
  exact ⟨es, clock, hb⟩

theorem MKept.setNew {w wr : World} {B : Nat} (h : MKept w wr B) {p : Addr} (hp : w.heap.size ≤ p.block) (v : Value) : MKept w (wr.setCell p v) B :=
  ⟨h.os, h.tape, h.output, by simpa using h.size, fun k hk hB => (heap_setCell_other _ _ _ _ (by omega)).trans (h.block k hk hB)⟩

/-- The key of line i. -/
def keyOfLine (L : Nat → Ln) (i : Nat) : List UInt8 := kb (L i).bs
/-- The number that line i gets. -/
def lab (acc : List (List UInt8)) (K : Nat → List UInt8) (i : Nat) : Int := idx (accs acc K (i + 1)) (K i)

set_option maxHeartbeats 1000000 in
theorem number_any (bc B : Nat) (a : Option Addr) (n c : Nat) (L : Nat → Ln) (acc : List (List UInt8)) (w : World) (hn : n ≤ 65536) (hacc : acc.length ≤ 1000000) (ha : LRow w a n L) (hcell : w.cell? ⟨bc, 0, none⟩ = some (.map (some B))) (hM : MapAt w B acc) :
    Calls Try.prog 10 #[.slice a n c, .pointer (some ⟨bc, 0, none⟩)] w fun e w' => ∃ g, e = .returned (.slice (some ⟨g, 0, none⟩) n n) ∧ w.heap.size ≤ g ∧ g < w'.heap.size ∧ IRow w' (some ⟨g, 0, none⟩) n (lab acc (keyOfLine L)) ∧ MapAt w' B (accs acc (keyOfLine L) n) ∧ MKept w w' B := by
  obtain ⟨i3, hi3, hz0, hz1, hz2⟩ := info_parts info3
  have hIs := hM.isMap
  have hBl : B < w.heap.size := by obtain ⟨D, hD, _⟩ := hM; exact hD.lt
  go_enter Try.func10, Try.ntmps10
  go_wp2_with (at_make; refine wpList_make_full _ rfl _ _ 25 rfl w.heap.size 3 i3 _ 1 Try.underlying25 hi3 hz0 hz1 .i64 .i64 _ _ n rfl rfl rfl rfl (by rw [hz2]; omega) (by unfold maxLen; omega) (Nat.le_refl _) ?_; intro wm hown hgr)
  have hkm : MKept w wm B := MKept.grown hgr (fun _ h => by cases h)
  have hMm : MapAt wm B acc := by obtain ⟨D, hD, hI⟩ := hM; exact ⟨D, hD.kept hgr (by simp), hI⟩
  go_loopw [14] (fun i wr => ∃ k : Nat, k ≤ n ∧ i = .int .i64 k ∧ FilledI wr w.heap.size w.heap.size n (lab acc (keyOfLine L)) k ∧ MapAt wr B (accs acc (keyOfLine L) k) ∧ MKept w wr B) (fun i _ => n - (intOf i).toNat)
  case atStart => exact ⟨0, Nat.zero_le _, rfl, FilledI.start hown, hMm, hkm⟩
  case round =>
    clear hown hgr hkm hMm
    obtain ⟨k, hk, rfl, hf, hMk, hkk⟩ := hrel
    by_cases hlt : k < n
    · obtain ⟨b1, o1, rfl, g0, hl⟩ := ha.at hlt
      have g0 := hkk.cell hIs g0
      have hl := hl.carry fun _ _ _ hv => hkk.cell hIs hv
      have hcl := hkk.cell hIs hcell
      have hcv := conv_line hl
      have hkey : keyOf Try.prog 9 (.string (bkey (L k).bs)) = some (.string (keyOfLine L k)) := by
        have := Go.WideMaps.keyOf_string_mk (P := Try.prog) Try.underlying9 (s := bkey (L k).bs) (by rw [bkey_size, hl.long]; exact hl.max)
        rw [this, bkey_data]; rfl
      have hal := accs_len acc (keyOfLine L) k
      obtain ⟨D, hD, hI⟩ := hMk
      have hsz := hkk.size
      obtain ⟨s, hs⟩ : ∃ s, Hid (bkey (L k).bs = s) := ⟨_, rfl⟩
      rw [hs.out] at hcv hkey
      obtain ⟨⟨q0, hq0⟩, f0⟩ := hf.old (j := k) hlt
      by_cases hin : keyOfLine L k ∈ accs acc (keyOfLine L) k
      · have hhas : Maps.has D (.string (keyOfLine L k)) = true := by rw [hI.has]; simpa using hin
        have hacs : Hid (accs acc (keyOfLine L) (k + 1) = accs acc (keyOfLine L) k) := by show _ = _; rw [accs]; unfold see; rw [if_pos hin]
        have hval := hI.val _ hin (.lit (.int .i64 0))
        have HVAL : Hid (D.atKey (.string (keyOfLine L k)) (.lit (.int .i64 0)) = .lit (.int .i64 (lab acc (keyOfLine L) k))) := by show _ = _; rw [hval]; unfold lab; rw [hacs.out]
        have hst := hf.step hlt
        obtain ⟨lb, hlb⟩ : ∃ x, Hid (lab acc (keyOfLine L) k = x) := ⟨_, rfl⟩
        rw [hlb.out] at HVAL hst
        have HM2 : Hid (MapAt wr B (accs acc (keyOfLine L) (k + 1))) := by rw [hacs.out]; exact ⟨D, hD, hI⟩
        have hD2 := hD
        clear hval hin hI
        go_wp2_with (at_lookup; refine wpList_lookup_own_ok_int _ rfl _ _ 31 rfl 9 3 .i64 law9 Try.underlying31 Try.underlying3 (zero3 _) B _ D rfl hD _ _ rfl hkey ?_; intro c hat hwc; obtain rfl : lb = c := by have h := HVAL.out.symm.trans hat; injection h with h; injection h)
        go_roundw
        case rel =>
          refine ⟨k + 1, by omega, by go_num, hst, ?_, ?_⟩
          · obtain ⟨D', hD', hI'⟩ := HM2.out
            exact ⟨D', hD'.setCell (by show B ≠ w.heap.size; omega) _, hI'⟩
          · exact hkk.setNew (Nat.le_refl _) _
        case measure => simp [intOf]; omega
      · have hhas : Maps.has D (.string (keyOfLine L k)) = false := by rw [hI.has]; simpa using hin
        have hacs : Hid (accs acc (keyOfLine L) (k + 1) = accs acc (keyOfLine L) k ++ [keyOfLine L k]) := by show _ = _; rw [accs]; unfold see; rw [if_neg hin]
        have hsizeD := hI.size
        have hput := hI.put hin
        have hlab : Hid (lab acc (keyOfLine L) k = ((accs acc (keyOfLine L) k).length : Int)) := by show _ = _; unfold lab; rw [hacs.out, idx_new hin]
        have hst := fun w1 (hf1 : FilledI w1 w.heap.size w.heap.size n (lab acc (keyOfLine L)) k) => hf1.step hlt
        rw [hlab.out] at hst
        have HA1 : Hid ((accs acc (keyOfLine L) (k + 1)).length = (accs acc (keyOfLine L) k).length + 1) := by show _ = _; rw [hacs.out]; simp
        obtain ⟨A, hA⟩ : ∃ A, Hid (accs acc (keyOfLine L) k = A) := ⟨_, rfl⟩
        rw [hA.out] at hal hD hsizeD hput hst HA1 hacs
        obtain ⟨N, hN⟩ : ∃ N, Hid (A.length = N) := ⟨_, rfl⟩
        rw [hN.out] at hal hD hsizeD hput hst HA1
        have HPUT : Hid (MapIs (D.put (.string (keyOfLine L k)) (.lit (.int .i64 N))) (A ++ [keyOfLine L k])) := hput
        have HST : Hid (∀ w1, FilledI w1 w.heap.size w.heap.size n (lab acc (keyOfLine L)) k → FilledI (w1.setCell ⟨w.heap.size, k, none⟩ (.int .i64 N)) w.heap.size w.heap.size n (lab acc (keyOfLine L)) (k + 1)) := hst
        clear hI hput hst hin
        go_wp2_with (first | (at_lookup; refine wpList_lookup_own_ok_int _ rfl _ _ 31 rfl 9 3 .i64 law9 Try.underlying31 Try.underlying3 (zero3 _) B _ D rfl hD _ _ rfl hkey ?_; intro c hat hwc) | (at_len; refine wpList_len_own _ rfl _ 31 rfl 9 3 Try.underlying31 _ B _ D rfl hD ?_) | (at_mapUpdate; refine wpList_mapUpdate_own _ rfl _ _ _ 31 rfl 9 3 law9 Try.underlying31 _ B N D rfl hD (by unfold maxLen; omega) _ _ _ rfl rfl hkey _ [] (plainElem_int Try.underlying3 (WalkArith.wf_i64 (by omega))) ?_; intro w1 hD1 hg1; have hf1 := hf.kept hg1 (by simp; omega); obtain ⟨⟨q1, hq1⟩, f1⟩ := hf1.old (j := k) hlt))
        go_roundw
        case rel =>
          refine ⟨k + 1, by omega, by go_num, HST.out _ hf1, ?_, ?_⟩
          · refine ⟨_, ?_, by rw [hacs.out]; exact HPUT.out⟩
            rw [HA1.out]
            exact hD1.setCell (by show B ≠ w.heap.size; omega) _
          · exact (hkk.trans (MKept.grown hg1 (fun j hj => .inl (by cases hj; rfl)))).setNew (Nat.le_refl _) _
        case measure => simp [intOf]; omega
    · obtain rfl : k = n := by omega
      go_wp2
      go_ret
      refine ⟨w.heap.size, rfl, Nat.le_refl _, ?_, hf.row, hMk, hkk⟩
      obtain ⟨xs, ho, _⟩ := hf
      exact (ho.lt _ rfl).2
end Go.Proofs.Qxb6618380a

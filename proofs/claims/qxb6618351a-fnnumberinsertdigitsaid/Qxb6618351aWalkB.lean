/-
  THE WALK of 'FnNumberInsertDigit' itself: out of the contracts of its callees.
-/
import Derived.Test.Qxb6618351aWalkA
import Derived.WalkKit
import Derived.WalkSpells
namespace Go.Proofs.Qxb6618351a
open Go.RowKit
theorem one_byte (d : Int) (w : World) : (convert 23 9 (.slice (some ⟨w.heap.size, 0, none⟩) 1 1)).run Try.prog (w.alloc (.cells #[.int .u8 d] 5)) = .ok (.string (ByteArray.empty.push (UInt8.ofNat d.toNat))) (w.alloc (.cells #[.int .u8 d] 5)) := by
  rw [run_convert_bytes_string _ 23 9 5 _ _ _ Try.underlying23 Try.underlying5 Try.underlying9]
  rw [run_bytesToString _ _ _ _ [d]]
  · rfl
  · simp [loadCells, go_sem]
/-- ZZnumber, its answer under a name. -/
theorem zznumber_named (s : ByteArray) (x : Int) (w : World) (hs : s.size ≤ maxLen) (hx : Hid (x = wrap64 (valN s.data.toList))) :
    Calls Try.prog 5 #[.string s] w fun e w' => e = .returned (.int .i64 x) ∧ w' = w := by
  rw [hx.out]; exact zznumber_any s w hs
theorem pow_named (n : Nat) (x : Int) (w : World) (hs : n ≤ 65536) (hx : Hid (x = wrap64 (10 ^ n))) :
    Calls Try.prog 6 #[.int .i64 n] w fun e w' => e = .returned (.int .i64 x) ∧ w' = w := by
  rw [hx.out]; exact pow_any n w hs
theorem joined_bytes (a0 a1 : ByteArray) (c : UInt8) : (a0 ++ ByteArray.empty.push c ++ a1).data.toList = a0.data.toList ++ [c] ++ a1.data.toList := by
  simp [ByteArray.data_append]

theorem law_walk (a0 : ByteArray) (a1 : ByteArray) (a2 : Int) (w0 : a0.size ≤ maxLen) (w1 : a1.size ≤ maxLen) (hd0 : 0 ≤ a2) (hd1 : a2 ≤ 255) (w : World) :
    Calls Try.prog 3 #[.string a0, .string a1, .int .u8 a2] w fun e w' => e = .returned (.bool true) ∧ Grown w w' := by
  have hcv := one_byte a2
  by_cases h0 : a0.size ≤ 65536
  · by_cases h1 : a1.size ≤ 65536
    · obtain ⟨X, hX⟩ : ∃ X, Hid (X = wrap64 (valN (a0 ++ ByteArray.empty.push (UInt8.ofNat a2.toNat) ++ a1).data.toList)) := ⟨_, rfl⟩
      obtain ⟨A, hA⟩ : ∃ A, Hid (A = wrap64 (valN a0.data.toList)) := ⟨_, rfl⟩
      obtain ⟨B, hB⟩ : ∃ B, Hid (B = wrap64 (valN a1.data.toList)) := ⟨_, rfl⟩
      obtain ⟨P, hP⟩ : ∃ P, Hid (P = wrap64 (10 ^ a1.size)) := ⟨_, rfl⟩
      have hE : Hid ((0 : Int) = wrap64 (valN (ByteArray.mk #[]).data.toList)) := (wrap_nil (l := [])).symm
      have hlaw : (X == wrap64 (wrap64 (wrap64 (wrap64 (A * P) * 10) + wrap64 ((a2 - 48) % 256 * P)) + B)) = true := by
        have hl : a1.data.toList.length = a1.size := by simp
        have hc : (a2 - 48) % 256 = (((UInt8.ofNat a2.toNat).toNat : Int) - 48) % 256 := by
          rw [UInt8.toNat_ofNat']; omega
        have := law a0.data.toList a1.data.toList (UInt8.ofNat a2.toNat) _ hc
        rw [hX.out, hA.out, hB.out, hP.out, joined_bytes, this, hl]
        simp
      go_enter Try.func3, Try.ntmps3
      go_wp2_with fail
      refine (bytes_any _ _ _ _ w0 w1).mono ?_
      rintro e w' ⟨rfl | rfl, rfl⟩
      · go_wp2_with fail
        refine (zznumber_named _ X _ (by simp [ByteArray.size_append, maxLen]; omega) hX).mono ?_
        rintro e w2 ⟨rfl, rfl⟩
        go_wp2_with fail
        refine (zznumber_named _ A _ w0 hA).mono ?_
        rintro e w2 ⟨rfl, rfl⟩
        go_wp2_with fail
        refine (zznumber_named _ B _ w1 hB).mono ?_
        rintro e w2 ⟨rfl, rfl⟩
        go_wp2_with fail
        refine (pow_named _ P _ h1 hP).mono ?_
        rintro e w2 ⟨rfl, rfl⟩
        go_wp2_with fail
        refine (zznumber_named _ 0 _ (Nat.zero_le _) hE).mono ?_
        rintro e w2 ⟨rfl, rfl⟩
        go_wp2
        go_ret
        exact ⟨rfl, by repeat (first | exact Grown.refl _ | apply Grown.drew | apply Grown.alloc)⟩
      · go_wp2
        go_ret
        exact ⟨rfl, Grown.refl _⟩
    · go_enter Try.func3, Try.ntmps3
      go_wp2_with fail
      refine (bytes_any _ _ _ _ w0 w1).mono ?_
      rintro e w' ⟨rfl | rfl, rfl⟩
      all_goals
        go_wp2
        go_ret
        exact ⟨rfl, Grown.refl _⟩
  · go_enter Try.func3, Try.ntmps3
    go_wp2_with fail
    refine (bytes_any _ _ _ _ w0 w1).mono ?_
    rintro e w' ⟨rfl | rfl, rfl⟩
    all_goals
      go_wp2
      go_ret
      exact ⟨rfl, Grown.refl _⟩
end Go.Proofs.Qxb6618351a

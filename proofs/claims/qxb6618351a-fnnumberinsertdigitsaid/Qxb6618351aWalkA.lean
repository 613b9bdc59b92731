/-
  THE WALKS of the callees of 'FnNumberInsertDigit': each Go function computes a plain function.
-/
import Derived.Test.Qxb6618351aRows
import Derived.Test.Qxb6618351aPlain
import Derived.WalkKit
namespace Go.Proofs.Qxb6618351a
open Go.RowKit

theorem ret_int {k : IntKind} {a b : Int} (h : a = b) : Ending.returned (.int k a) = .returned (.int k b) := by rw [h]
theorem val_int {k : IntKind} {a b : Int} (h : a = b) : Value.int k a = .int k b := by rw [h]
theorem take_snoc (s : ByteArray) (k : Nat) (h : k < s.size) : s.data.toList.take (k + 1) = s.data.toList.take k ++ [s[k]] := by
  rw [List.take_succ_eq_append_getElem (by simpa using h)]; rfl

theorem wrap_nil {l : List UInt8} : wrap64 (valN (l.take 0)) = 0 := by
  rw [List.take_zero]; exact wrap_small (a := 0) (by omega) (by omega)
theorem wrap_one : wrap64 (10 ^ 0) = 1 := wrap_small (a := 1) (by omega) (by omega)

/-- number -/
theorem number_any (s : ByteArray) (w : World) (hs : s.size ≤ maxLen) :
    Calls Try.prog 7 #[.string s] w fun e w' => e = .returned (.int .i64 (wrap64 (valN s.data.toList))) ∧ w' = w := by
  unfold maxLen at hs
  go_enter Try.func7, Try.ntmps7
  go_wp2
  go_loop [3, 4] (fun n i => ∃ k : Nat, k ≤ s.size ∧ i = .int .i64 k ∧ n = .int .i64 (wrap64 (valN (s.data.toList.take k)))) (fun _ i => s.size - (intOf i).toNat)
  case atStart => exact ⟨0, Nat.zero_le _, rfl, val_int wrap_nil.symm⟩
  case round =>
    obtain ⟨k, hk, rfl, rfl⟩ := hrel
    by_cases hlt : k < s.size
    · have HS : Hid (valN (s.data.toList.take (k + 1)) = 10 * valN (s.data.toList.take k) + ((s[k].toNat : Int) - 48) % 256) := by
        rw [take_snoc s k hlt]; exact valN_snoc _ _
      go_wp2
      go_round
      case rel => exact ⟨k + 1, by omega, by go_num, val_int (by rw [HS.out, step_num])⟩
      case measure => simp [intOf]; omega
    · go_wp2
      go_ret
      exact ⟨ret_int (by rw [List.take_of_length_le (by simp; omega)]), rfl⟩

/-- zzPow10Wrap -/
theorem pow_any (n : Nat) (w : World) (hs : n ≤ 65536) :
    Calls Try.prog 6 #[.int .i64 n] w fun e w' => e = .returned (.int .i64 (wrap64 (10 ^ n))) ∧ w' = w := by
  go_enter Try.func6, Try.ntmps6
  go_wp2
  go_loop [3, 4] (fun p i => ∃ k : Nat, k ≤ n ∧ i = .int .i64 k ∧ p = .int .i64 (wrap64 (10 ^ k))) (fun _ i => n - (intOf i).toNat)
  case atStart => exact ⟨0, Nat.zero_le _, rfl, val_int wrap_one.symm⟩
  case round =>
    obtain ⟨k, hk, rfl, rfl⟩ := hrel
    by_cases hlt : k < n
    · go_wp2
      go_round
      case rel => exact ⟨k + 1, by omega, by go_num, val_int (by rw [step_pow, Int.pow_succ])⟩
      case measure => simp [intOf]; omega
    · have hkn : Hid (k = n) := by show k = n; omega
      go_wp2
      go_ret
      exact ⟨ret_int (by rw [hkn.out]), rfl⟩

/-- ZZnumber -/
theorem zznumber_any (s : ByteArray) (w : World) (hs : s.size ≤ maxLen) :
    Calls Try.prog 5 #[.string s] w fun e w' => e = .returned (.int .i64 (wrap64 (valN s.data.toList))) ∧ w' = w := by
  go_enter Try.func5, Try.ntmps5
  go_wp2_with (go_at_call 7; refine (number_any _ _ hs).mono ?_; rintro e w' ⟨rfl, rfl⟩)
  go_ret
  exact ⟨rfl, rfl⟩

/-- zzBytes -/
theorem bytes_any (a b : ByteArray) (d : Int) (w : World) (ha : a.size ≤ maxLen) (hb : b.size ≤ maxLen) :
    Calls Try.prog 4 #[.string a, .string b, .int .u8 d] w fun e w' => (e = .returned (.bool true) ∨ e = .returned (.bool false)) ∧ w' = w := by
  unfold maxLen at ha hb
  go_enter Try.func4, Try.ntmps4
  go_wp2
  all_goals
    go_ret
    exact ⟨by simp, rfl⟩

end Go.Proofs.Qxb6618351a

/-
  THE PLAIN LAW of 'FnNumberInsertDigit': no Go in sight. Reading a string of bytes as a number, in int's own wrapping arithmetic.
-/
import Derived.WalkKit
namespace Go.Proofs.Qxb6618351a
open Go.RowKit

/-- The value of a list of bytes, unwrapped: each byte counts '(c - 48) mod 256'. -/
def valN (l : List UInt8) : Int := l.foldl (fun n c => 10 * n + ((c.toNat : Int) - 48) % 256) 0

theorem foldl_from (l : List UInt8) : ∀ z : Int, l.foldl (fun n c => 10 * n + ((c.toNat : Int) - 48) % 256) z = z * 10 ^ l.length + valN l := by
  induction l with
  | nil => intro z; simp [valN]
  | cons c l ih =>
    intro z
    have h0 : valN (c :: l) = (((c.toNat : Int) - 48) % 256) * 10 ^ l.length + valN l := by
      show l.foldl _ (10 * 0 + ((c.toNat : Int) - 48) % 256) = _
      rw [ih]; simp
    rw [h0, List.foldl_cons, ih, List.length_cons, Int.pow_succ, Int.add_mul]
    have e : 10 * z * (10 : Int) ^ l.length = z * (10 ^ l.length * 10) := by
      rw [Int.mul_comm 10 z, Int.mul_assoc, Int.mul_comm 10]
    rw [e]; omega

theorem valN_append (a b : List UInt8) : valN (a ++ b) = valN a * 10 ^ b.length + valN b := by
  show (a ++ b).foldl _ 0 = _
  rw [List.foldl_append, foldl_from]
  rfl

theorem valN_snoc (a : List UInt8) (c : UInt8) : valN (a ++ [c]) = 10 * valN a + ((c.toNat : Int) - 48) % 256 := by
  show (a ++ [c]).foldl _ 0 = _
  rw [List.foldl_append]
  rfl

theorem valN_mid (a b : List UInt8) (c : UInt8) : valN (a ++ [c] ++ b) = valN a * 10 ^ b.length * 10 + (((c.toNat : Int) - 48) % 256) * 10 ^ b.length + valN b := by
  rw [valN_append, valN_snoc, Int.add_mul]
  have e : 10 * valN a * (10 : Int) ^ b.length = valN a * 10 ^ b.length * 10 := by
    rw [Int.mul_comm 10 (valN a), Int.mul_assoc, Int.mul_comm 10, Int.mul_assoc]
  rw [e]

/-! ### Wrapping -/
theorem wrap_off (x : Int) : ∃ t : Int, wrap64 x = x + 18446744073709551616 * t := ⟨-((x + 9223372036854775808) / 18446744073709551616), by unfold wrap64; omega⟩
theorem wrap_same {a b t : Int} (h : a = b + 18446744073709551616 * t) : wrap64 a = wrap64 b := by unfold wrap64; omega
theorem wrap_add (a b : Int) : wrap64 (wrap64 a + wrap64 b) = wrap64 (a + b) := by
  obtain ⟨s, hs⟩ := wrap_off a
  obtain ⟨t, ht⟩ := wrap_off b
  rw [hs, ht]
  exact wrap_same (t := s + t) (by omega)
theorem wrap_mul (a b : Int) : wrap64 (wrap64 a * wrap64 b) = wrap64 (a * b) := by
  obtain ⟨s, hs⟩ := wrap_off a
  obtain ⟨t, ht⟩ := wrap_off b
  rw [hs, ht]
  refine wrap_same (t := a * t + s * b + s * (18446744073709551616 * t)) ?_
  rw [Int.add_mul, Int.mul_add, Int.mul_add, Int.mul_add, Int.mul_add, Int.mul_left_comm a, Int.mul_assoc 18446744073709551616 s b, Int.mul_assoc 18446744073709551616 s]
  omega
theorem wrap_small {a : Int} (h0 : 0 ≤ a) (h1 : a ≤ 65536) : wrap64 a = a := by unfold wrap64; omega

theorem step_num (x d : Int) : wrap64 (wrap64 (10 * wrap64 x) + d) = wrap64 (10 * x + d) := by
  obtain ⟨s, hs⟩ := wrap_off x
  rw [hs]
  obtain ⟨t, ht⟩ := wrap_off (10 * (x + 18446744073709551616 * s))
  rw [ht]
  exact wrap_same (t := 10 * s + t) (by omega)

theorem step_pow (x : Int) : wrap64 (wrap64 x * 10) = wrap64 (x * 10) := by
  obtain ⟨s, hs⟩ := wrap_off x
  rw [hs]
  exact wrap_same (t := 10 * s) (by omega)

/-- THE LAW. -/
theorem law (a b : List UInt8) (c : UInt8) (v : Int) (hv : v = ((c.toNat : Int) - 48) % 256) :
    wrap64 (valN (a ++ [c] ++ b)) = wrap64 (wrap64 (wrap64 (wrap64 (wrap64 (valN a) * wrap64 (10 ^ b.length)) * 10) + wrap64 (v * wrap64 (10 ^ b.length))) + wrap64 (valN b)) := by
  have hw : wrap64 v = v := by rw [hv]; exact wrap_small (by omega) (by omega)
  have h1 : wrap64 (v * wrap64 (10 ^ b.length)) = wrap64 (v * 10 ^ b.length) := by
    have h := wrap_mul v (10 ^ b.length)
    rwa [hw] at h
  rw [h1, wrap_mul, step_pow, wrap_add (valN a * 10 ^ b.length * 10), wrap_add, valN_mid, hv]

end Go.Proofs.Qxb6618351a

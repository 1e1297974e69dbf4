/- Facts on single bits of int and uint32, in the walk's spelling. -/
import Derived.Test.YtnpkihobbcglcaaGreatDoorQ01
import Derived.WalkKit
import Derived.Laws.BitsAllLaws
set_option linter.unusedSimpArgs false
set_option linter.unusedVariables false

/- B1: Facts on single bits of int and uint32, in the walk's spelling. -/
namespace Go.Proofs.YtnpkihobbcglcaaGreatDoor
open Go Go.RowKit

theorem ofInt64 (a : Nat) (ha : a < 2 ^ 63) : (BitVec.ofInt 64 (a : Int)).toNat = a := by
  rw [BitVec.ofInt_natCast, BitVec.toNat_ofNat]; exact Nat.mod_eq_of_lt (by omega)
theorem wrapi64 (n : Int) (h0 : 0 ≤ n) (h1 : n < 9223372036854775808) : IntKind.i64.wrap n = n := by rw [IntKind.wrap_i64]; omega
theorem i64_and (a b : Nat) (ha : a < 2 ^ 63) (hb : b < 2 ^ 63) : bits .and .i64 (a : Int) (b : Int) = ((a &&& b : Nat) : Int) := by
  have hx : a &&& b < 2 ^ 63 := Nat.and_lt_two_pow _ hb
  show IntKind.i64.wrap ((BitVec.ofInt 64 (a : Int) &&& BitVec.ofInt 64 (b : Int)).toNat : Int) = _
  rw [BitVec.toNat_and, ofInt64 a ha, ofInt64 b hb]
  exact wrapi64 _ (by omega) (by omega)
theorem i64_or (a b : Nat) (ha : a < 2 ^ 63) (hb : b < 2 ^ 63) : bits .or .i64 (a : Int) (b : Int) = ((a ||| b : Nat) : Int) := by
  have hx : a ||| b < 2 ^ 63 := Nat.or_lt_two_pow ha hb
  show IntKind.i64.wrap ((BitVec.ofInt 64 (a : Int) ||| BitVec.ofInt 64 (b : Int)).toNat : Int) = _
  rw [BitVec.toNat_or, ofInt64 a ha, ofInt64 b hb]
  exact wrapi64 _ (by omega) (by omega)
theorem i64_xor (a b : Nat) (ha : a < 2 ^ 63) (hb : b < 2 ^ 63) : bits .xor .i64 (a : Int) (b : Int) = ((a ^^^ b : Nat) : Int) := by
  have hx : a ^^^ b < 2 ^ 63 := Nat.xor_lt_two_pow ha hb
  show IntKind.i64.wrap ((BitVec.ofInt 64 (a : Int) ^^^ BitVec.ofInt 64 (b : Int)).toNat : Int) = _
  rw [BitVec.toNat_xor, ofInt64 a ha, ofInt64 b hb]
  exact wrapi64 _ (by omega) (by omega)

theorem wrap64_pow (j : Nat) (hj : j < 63) : wrap64 (2 ^ j) = ((2 ^ j : Nat) : Int) := by
  have h : (2 : Nat) ^ j < 2 ^ 63 := Nat.pow_lt_pow_right (a := 2) (m := j) (n := 63) (by omega) hj
  have e : ((2 : Int) ^ j) = ((2 ^ j : Nat) : Int) := by simp
  rw [e]; generalize (2 : Nat) ^ j = m at h ⊢; unfold wrap64; omega

theorem and_pow_ne (v j : Nat) : ((v &&& 2 ^ j) != 0) = v.testBit j := by
  rw [nat_bit, Nat.testBit_eq_decide_div_mod_eq]
  have hp : 0 < 2 ^ j := Nat.pow_pos (by omega)
  rcases Nat.mod_two_eq_zero_or_one (v / 2 ^ j) with h | h
  · simp [h]
  · simp [h]

theorem test_i64 (v j : Nat) (hv : v < 2 ^ 63) (hj : j < 63) : (bits .and .i64 (v : Int) (wrap64 (2 ^ j)) != 0) = v.testBit j := by
  rw [wrap64_pow j hj, i64_and v _ hv (Nat.pow_lt_pow_right (a := 2) (m := j) (n := 63) (by omega) hj)]
  rw [← and_pow_ne v j, Bool.eq_iff_iff, bne_iff_ne, bne_iff_ne]
  constructor
  · intro h e; exact h (by rw [e]; rfl)
  · intro h e; exact h (by exact_mod_cast e)
theorem and31_i64 (m : Nat) (hm : m < 2 ^ 63) : bits .and .i64 (m : Int) 31 = ((m % 32 : Nat) : Int) := by
  have := i64_and m 31 hm (by omega)
  rw [show (31 : Int) = ((31 : Nat) : Int) from rfl, this, show m &&& 31 = m % 32 from Nat.and_two_pow_sub_one_eq_mod m 5]
end Go.Proofs.YtnpkihobbcglcaaGreatDoor

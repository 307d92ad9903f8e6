import Derived.Test.Qxb6603969aBm
import Derived.Test.Qxb6603969aStr
import Derived.Laws.BitsAllLaws
import Derived.Laws.BitsLemmas
namespace Go.Proofs.Qxb6603969a
open Go
theorem bits8_or (a b : Nat) (ha : a < 256) (hb : b < 256) : bits .or .u8 (a : Int) (b : Int) = ((a ||| b : Nat) : Int) := by
  have hx : a ||| b < 2 ^ 8 := Nat.or_lt_two_pow (by omega) (by omega)
  have h1 : (BitVec.ofInt 8 (a : Int)).toNat = a := by
    rw [BitVec.ofInt_natCast, BitVec.toNat_ofNat]; exact Nat.mod_eq_of_lt (by omega)
  have h2 : (BitVec.ofInt 8 (b : Int)).toNat = b := by
    rw [BitVec.ofInt_natCast, BitVec.toNat_ofNat]; exact Nat.mod_eq_of_lt (by omega)
  show IntKind.u8.wrap ((BitVec.ofInt 8 (a : Int) ||| BitVec.ofInt 8 (b : Int)).toNat : Int) = _
  rw [BitVec.toNat_or, h1, h2, IntKind.wrap_u8]
  omega
theorem bits8_and (a b : Nat) (ha : a < 256) (hb : b < 256) : bits .and .u8 (a : Int) (b : Int) = ((a &&& b : Nat) : Int) := by
  have hx : a &&& b < 2 ^ 8 := Nat.and_lt_two_pow _ (by omega)
  have h1 : (BitVec.ofInt 8 (a : Int)).toNat = a := by
    rw [BitVec.ofInt_natCast, BitVec.toNat_ofNat]; exact Nat.mod_eq_of_lt (by omega)
  have h2 : (BitVec.ofInt 8 (b : Int)).toNat = b := by
    rw [BitVec.ofInt_natCast, BitVec.toNat_ofNat]; exact Nat.mod_eq_of_lt (by omega)
  show IntKind.u8.wrap ((BitVec.ofInt 8 (a : Int) &&& BitVec.ofInt 8 (b : Int)).toNat : Int) = _
  rw [BitVec.toNat_and, h1, h2, IntKind.wrap_u8]
  omega
theorem bits16_low (a : Nat) (ha : a < 65536) : bits .and .u16 (a : Int) 255 = ((a % 256 : Nat) : Int) := by
  have hx : a &&& 255 = a % 256 := Nat.and_two_pow_sub_one_eq_mod (n := 8) a
  have h1 : (BitVec.ofInt 16 (a : Int)).toNat = a := by
    rw [BitVec.ofInt_natCast, BitVec.toNat_ofNat]; exact Nat.mod_eq_of_lt (by omega)
  show IntKind.u16.wrap ((BitVec.ofInt 16 (a : Int) &&& BitVec.ofInt 16 255).toNat : Int) = _
  rw [BitVec.toNat_and, h1, show (BitVec.ofInt 16 255).toNat = 255 from rfl, hx, IntKind.wrap_u16]
  omega

theorem shr128 (R : Nat) (h : R < 8) : (128 : Int) / (2 : Int) ^ R = ((128 >>> R : Nat) : Int) := by
  have : R = 0 ∨ R = 1 ∨ R = 2 ∨ R = 3 ∨ R = 4 ∨ R = 5 ∨ R = 6 ∨ R = 7 := by omega
  rcases this with rfl | rfl | rfl | rfl | rfl | rfl | rfl | rfl <;> rfl

theorem shr128_lt (R : Nat) : 128 >>> R < 256 := by
  rw [Nat.shiftRight_eq_div_pow]
  exact Nat.lt_of_le_of_lt (Nat.div_le_self _ _) (by omega)

/-- 'byt & (0x80 >> bit) != 0' -/
theorem and_bit (x R : Nat) (h : R < 8) : (x &&& 128 >>> R != 0) = x.testBit (7 - R) := by
  rw [shift_pow R h]
  by_cases hb : x.testBit (7 - R) = true
  · rw [hb]
    have : (x &&& 2 ^ (7 - R)).testBit (7 - R) = true := by rw [Nat.testBit_and, hb, Nat.testBit_two_pow_self]; rfl
    have := testBit_ne this
    simpa using this
  · have hb' : x.testBit (7 - R) = false := by simpa using hb
    rw [hb']
    have : x &&& 2 ^ (7 - R) = 0 := by
      apply Nat.eq_of_testBit_eq
      intro i
      rw [Nat.testBit_and, Nat.testBit_two_pow, Nat.zero_testBit]
      by_cases e : 7 - R = i
      · subst e; rw [hb']; rfl
      · simp [e]
    rw [this]; rfl
end Go.Proofs.Qxb6603969a

import Derived.WalkKit
namespace Go.Proofs.Qxb6002696a
open Go.RowKit

theorem and_not7 (a : Nat) (h : a < 2 ^ 64) : (BitVec.ofNat 64 a &&& ~~~(BitVec.ofNat 64 7)).toNat = 8 * (a / 8) := by
  apply Nat.eq_of_testBit_eq
  intro i
  have e8 : (8 : Nat) * (a / 8) = 2 ^ 3 * (a / 2 ^ 3) := rfl
  rw [e8, Nat.testBit_two_pow_mul, Nat.testBit_div_two_pow, BitVec.testBit_toNat]
  rw [BitVec.getLsbD_and, BitVec.getLsbD_not, BitVec.getLsbD_ofNat, BitVec.getLsbD_ofNat]
  have e7 : (7 : Nat).testBit i = decide (i < 3) := Nat.testBit_two_pow_sub_one 3 i
  rw [e7]
  by_cases h3 : i < 3
  · have : ¬ i ≥ 3 := by omega
    simp [h3, this]
  · have h3' : i ≥ 3 := by omega
    have e : i - 3 + 3 = i := by omega
    by_cases h64 : i < 64
    · simp [h3, h3', h64, e]
    · have : a.testBit i = false := Nat.testBit_lt_two_pow (Nat.lt_of_lt_of_le h (Nat.pow_le_pow_right (by decide) (by omega)))
      simp [h64, e, this]

theorem andNot7 (a : Nat) (h : a < 2 ^ 60) : bits .andNot .i64 (a : Int) 7 = ((8 * (a / 8) : Nat) : Int) := by
  have e := and_not7 a (by omega)
  show IntKind.i64.wrap ((BitVec.ofInt 64 (a : Int) &&& ~~~BitVec.ofInt 64 (7 : Int)).toNat : Int) = _
  have e1 : BitVec.ofInt 64 (a : Int) = BitVec.ofNat 64 a := BitVec.ofInt_natCast _ _
  have e2 : BitVec.ofInt 64 (7 : Int) = BitVec.ofNat 64 7 := rfl
  rw [e1, e2, e, IntKind.wrap_i64]
  omega

theorem wraps_u32 (n : Int) (h₀ : 0 ≤ n) (h₁ : n < 2 ^ 32) : IntKind.u32.wrap n = n := by rw [IntKind.wrap_u32]; omega
theorem wraps_i64 (n : Int) (h₀ : 0 ≤ n) (h₁ : n < 2 ^ 63) : IntKind.i64.wrap n = n := by rw [IntKind.wrap_i64]; omega

/-- 'or' of two small numbers is not below zero, and small. -/
theorem or_i64 (x y : Int) (hx0 : 0 ≤ x) (hx : x < 2 ^ 40) (hy0 : 0 ≤ y) (hy : y < 2 ^ 40) : 0 ≤ bits .or .i64 x y ∧ bits .or .i64 x y < 2 ^ 40 := by
  obtain ⟨a, rfl⟩ := Int.eq_ofNat_of_zero_le hx0
  obtain ⟨b, rfl⟩ := Int.eq_ofNat_of_zero_le hy0
  rw [(bits_nat .i64 63 (by decide) wraps_i64 a b (by omega) (by omega)).2]
  have h := Nat.or_lt_two_pow (x := a) (y := b) (n := 40) (by omega) (by omega)
  constructor
  · omega
  · have : ((a ||| b : Nat) : Int) < ((2 ^ 40 : Nat) : Int) := by exact_mod_cast h
    exact this

/-- Whatever 'or' of two u32 numbers gives is a u32 number. -/
theorem or_u32 (x y : Int) (hx0 : 0 ≤ x) (hx : x < 2 ^ 32) (hy0 : 0 ≤ y) (hy : y < 2 ^ 32) : 0 ≤ bits .or .u32 x y ∧ bits .or .u32 x y < 2 ^ 32 := by
  obtain ⟨a, rfl⟩ := Int.eq_ofNat_of_zero_le hx0
  obtain ⟨b, rfl⟩ := Int.eq_ofNat_of_zero_le hy0
  rw [(bits_nat .u32 32 (by decide) wraps_u32 a b (by omega) (by omega)).2]
  have h := Nat.or_lt_two_pow (x := a) (y := b) (n := 32) (by omega) (by omega)
  constructor
  · omega
  · have : ((a ||| b : Nat) : Int) < ((2 ^ 32 : Nat) : Int) := by exact_mod_cast h
    exact this

theorem and_u32 (x y : Int) (hx0 : 0 ≤ x) (hx : x < 2 ^ 32) (hy0 : 0 ≤ y) (hy : y < 2 ^ 32) : 0 ≤ bits .and .u32 x y ∧ bits .and .u32 x y ≤ y := by
  obtain ⟨a, rfl⟩ := Int.eq_ofNat_of_zero_le hx0
  obtain ⟨b, rfl⟩ := Int.eq_ofNat_of_zero_le hy0
  rw [(bits_nat .u32 32 (by decide) wraps_u32 a b (by omega) (by omega)).1]
  have h : a &&& b ≤ b := Nat.and_le_right
  constructor <;> omega

theorem and_u8 (x y : Int) (hx0 : 0 ≤ x) (hx : x < 2 ^ 8) (hy0 : 0 ≤ y) (hy : y < 2 ^ 8) : 0 ≤ bits .and .u8 x y ∧ bits .and .u8 x y ≤ y := by
  obtain ⟨a, rfl⟩ := Int.eq_ofNat_of_zero_le hx0
  obtain ⟨b, rfl⟩ := Int.eq_ofNat_of_zero_le hy0
  rw [(bits_nat .u8 8 (by decide) wraps_u8 a b (by omega) (by omega)).1]
  have h : a &&& b ≤ b := Nat.and_le_right
  constructor <;> omega

theorem or_bit (x y z : Int) (m : Nat) (hx : x = 0) (hy0 : 0 ≤ z) (hy : z ≤ 255) (e : y = bits BinOp.and IntKind.u8 (z / 2 ^ m) 1) : bits .or .u32 (x * 2 % 4294967296) (y % 4294967296) ≤ 1 := by
  subst hx
  have hd0 : 0 ≤ z / 2 ^ m := Int.ediv_nonneg hy0 (Int.le_of_lt (Int.pow_pos (by decide)))
  have hd1 : z / 2 ^ m ≤ z := Int.ediv_le_self _ hy0
  have ha := and_u8 (z / 2 ^ m) 1 hd0 (by omega) (by omega) (by omega)
  rw [← e] at ha
  have e1 : (0 : Int) * 2 % 4294967296 = ((0 : Nat) : Int) := rfl
  obtain ⟨b, hb⟩ := Int.eq_ofNat_of_zero_le ha.1
  have e2 : y % 4294967296 = (b : Int) := by omega
  rw [e1, e2, (bits_nat .u32 32 (by decide) wraps_u32 0 b (by omega) (by omega)).2]
  simp
  omega
end Go.Proofs.Qxb6002696a

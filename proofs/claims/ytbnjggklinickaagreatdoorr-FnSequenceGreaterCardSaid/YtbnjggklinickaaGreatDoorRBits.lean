/-
  Small laws on the bits of numbers that the walks meet: a mask, a sum that 'or' makes. No condition but bounds.
-/
import Derived.Laws.BitsLemmas
import Derived.Lib.EndianBits
namespace Go.Proofs.YtbnjggklinickaaGreatDoorR
open Go

theorem wraps_i64 (n : Int) (h₀ : 0 ≤ n) (h₁ : n < 2 ^ 62) : IntKind.i64.wrap n = n := by rw [IntKind.wrap_i64]; omega

theorem i64_or8 (y x : Int) (h1 : 0 ≤ y) (h2 : y < 256) (h3 : 0 ≤ x) (h4 : x % 256 = 0) (h5 : x < 4294967296) : bits .or .i64 y x = y + x :=
  bits_join_low .i64 62 (by decide) wraps_i64 8 y x h1 h2 (by omega) h3 h4 (by omega)
theorem i64_or16 (y x : Int) (h1 : 0 ≤ y) (h2 : y < 65536) (h3 : 0 ≤ x) (h4 : x % 65536 = 0) (h5 : x < 4294967296) : bits .or .i64 y x = y + x :=
  bits_join_low .i64 62 (by decide) wraps_i64 16 y x h1 h2 (by omega) h3 h4 (by omega)
theorem i64_or0 (x : Int) (h3 : 0 ≤ x) (h5 : x < 4294967296) : bits .or .i64 0 x = x := by
  have := bits_join_low .i64 62 (by decide) wraps_i64 0 0 x (by decide) (by decide) (by decide) h3 (by omega) (by omega)
  simpa using this
theorem u32_or0 (x : Int) (h3 : 0 ≤ x) (h5 : x < 65536) : bits .or .u32 0 x = x := by
  have := bits_join_low .u32 32 (by decide) wraps_u32 0 0 x (by decide) (by decide) (by decide) h3 (by omega) (by omega)
  simpa using this
theorem u32_or22 (x : Int) (h3 : 0 ≤ x) (h5 : x < 65536) : bits .or .u32 4194304 x = 4194304 + x :=
  bits_join .u32 32 (by decide) wraps_u32 16 4194304 x (by decide) (by decide) (by decide) h3 (by omega) (by omega)
theorem u8_top (x : Int) (h1 : 0 ≤ x) (h2 : x < 128) : bits .and .u8 x 128 = 0 := by
  obtain ⟨a, rfl⟩ := Int.eq_ofNat_of_zero_le h1
  have hh : ∀ k : Fin 128, bits .and .u8 ((k.val : Nat) : Int) 128 = 0 := by decide +kernel
  exact hh ⟨a, by omega⟩

theorem nat_and_pow (x n : Nat) : x &&& 2 ^ n = if x.testBit n then 2 ^ n else 0 := by
  apply Nat.eq_of_testBit_eq
  intro i
  rw [Nat.testBit_and, Nat.testBit_two_pow]
  by_cases h : n = i
  · subst h
    cases hx : x.testBit n <;> simp
  · cases hx : x.testBit n <;> simp [h]
theorem nat_and_31 (a : Nat) (h : a < 2147483648) : a &&& 2147483648 = 0 := by
  have := nat_and_pow a 31
  rw [Nat.testBit_lt_two_pow (by simpa using h)] at this
  simpa using this
theorem i64_and31 (x : Int) (h1 : 0 ≤ x) (h2 : x < 2147483648) : bits .and .i64 x 2147483648 = 0 := by
  obtain ⟨a, rfl⟩ := Int.eq_ofNat_of_zero_le h1
  have := (bits_nat .i64 62 (by decide) wraps_i64 a 2147483648 (by omega) (by decide)).1
  rw [nat_and_31 a (by omega)] at this
  simpa using this

theorem nat_and_mask (a : Nat) (h : a < 65536) : a &&& 4259839 = a ∧ (4194304 + a) &&& 4259839 = 4194304 + a := by
  have e : (4259839 : Nat) = 2 ^ 22 ||| (2 ^ 16 - 1) := by decide
  have e1 : a &&& 2 ^ 22 = 0 := by
    rw [nat_and_pow, Nat.testBit_lt_two_pow (by omega)]; simp
  have e3 : (4194304 + a).testBit 22 = true := by
    have := Nat.testBit_two_pow_add_eq a 22
    rw [show (4194304 : Nat) = 2 ^ 22 by decide, this, Nat.testBit_lt_two_pow (by omega)]; rfl
  have e2 : (4194304 + a) &&& 2 ^ 22 = 4194304 := by
    rw [nat_and_pow, e3]; rfl
  constructor
  · rw [e, Nat.and_or_distrib_left, e1, Nat.and_two_pow_sub_one_eq_mod]
    simp; omega
  · rw [e, Nat.and_or_distrib_left, e2, Nat.and_two_pow_sub_one_eq_mod]
    have h2 : (4194304 + a) % 2 ^ 16 = a := by omega
    rw [h2]
    have := Nat.two_pow_add_eq_or_of_lt (i := 22) (b := a) (by omega) 1
    simpa using this.symm
theorem i64_mask (x : Int) (h1 : 0 ≤ x) (h2 : x < 65536) : bits .and .i64 x 4259839 = x ∧ bits .and .i64 (4194304 + x) 4259839 = 4194304 + x := by
  obtain ⟨a, rfl⟩ := Int.eq_ofNat_of_zero_le h1
  have h := nat_and_mask a (by omega)
  have g1 := (bits_nat .i64 62 (by decide) wraps_i64 a 4259839 (by omega) (by decide)).1
  have g2 := (bits_nat .i64 62 (by decide) wraps_i64 (4194304 + a) 4259839 (by omega) (by decide)).1
  rw [h.1] at g1
  rw [h.2] at g2
  constructor
  · simpa using g1
  · simpa using g2
#print axioms i64_mask
end Go.Proofs.YtbnjggklinickaaGreatDoorR

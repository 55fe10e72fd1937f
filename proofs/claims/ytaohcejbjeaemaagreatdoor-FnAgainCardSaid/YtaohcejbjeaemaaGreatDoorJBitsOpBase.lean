/-
  Small laws on the bits of numbers that the walks meet: a mask, a sum that 'or' makes. No condition but bounds.
-/
import Derived.Test.YtaohcejbjeaemaaGreatDoorJStackNipB
import Derived.Laws.BitsLemmas
import Derived.Lib.EndianBits
namespace Go.Proofs.YtaohcejbjeaemaaGreatDoor
open Go

theorem wraps_i64 (n : Int) (h₀ : 0 ≤ n) (h₁ : n < 2 ^ 62) : IntKind.i64.wrap n = n := by rw [IntKind.wrap_i64]; omega

theorem i64_or8 (y x : Int) (h1 : 0 ≤ y) (h2 : y < 256) (h3 : 0 ≤ x) (h4 : x % 256 = 0) (h5 : x < 4294967296) : bits .or .i64 y x = y + x :=
  bits_join_low .i64 62 (by decide) wraps_i64 8 y x h1 h2 (by omega) h3 h4 (by omega)
theorem i64_or16 (y x : Int) (h1 : 0 ≤ y) (h2 : y < 65536) (h3 : 0 ≤ x) (h4 : x % 65536 = 0) (h5 : x < 4294967296) : bits .or .i64 y x = y + x :=
  bits_join_low .i64 62 (by decide) wraps_i64 16 y x h1 h2 (by omega) h3 h4 (by omega)
theorem i64_or0 (x : Int) (h3 : 0 ≤ x) (h5 : x < 4294967296) : bits .or .i64 0 x = x := by
  have := bits_join_low .i64 62 (by decide) wraps_i64 0 0 x (by decide) (by decide) (by decide) h3 (by omega) (by omega)
  simpa using this
theorem u32_or0 (x : Int) (h3 : 0 ≤ x) (h5 : x < 65536) : bits .or .u32 0 x = x := by
  have := bits_join_low .u32 32 (by decide) wraps_u32 0 0 x (by decide) (by decide) (by decide) h3 (by omega) (by omega)
  simpa using this
theorem u32_or22 (x : Int) (h3 : 0 ≤ x) (h5 : x < 65536) : bits .or .u32 4194304 x = 4194304 + x :=
  bits_join .u32 32 (by decide) wraps_u32 16 4194304 x (by decide) (by decide) (by decide) h3 (by omega) (by omega)
theorem u8_top (x : Int) (h1 : 0 ≤ x) (h2 : x < 128) : bits .and .u8 x 128 = 0 := by
  obtain ⟨a, rfl⟩ := Int.eq_ofNat_of_zero_le h1
  have hh : ∀ k : Fin 128, bits .and .u8 ((k.val : Nat) : Int) 128 = 0 := by decide +kernel
  exact hh ⟨a, by omega⟩

theorem nat_and_pow (x n : Nat) : x &&& 2 ^ n = if x.testBit n then 2 ^ n else 0 := by
  apply Nat.eq_of_testBit_eq
  intro i
  rw [Nat.testBit_and, Nat.testBit_two_pow]
  by_cases h : n = i
  · subst h
    cases hx : x.testBit n <;> simp
  · cases hx : x.testBit n <;> simp [h]
theorem nat_and_31 (a : Nat) (h : a < 2147483648) : a &&& 2147483648 = 0 := by
  have := nat_and_pow a 31
  rw [Nat.testBit_lt_two_pow (by simpa using h)] at this
  simpa using this
theorem i64_and31 (x : Int) (h1 : 0 ≤ x) (h2 : x < 2147483648) : bits .and .i64 x 2147483648 = 0 := by
  obtain ⟨a, rfl⟩ := Int.eq_ofNat_of_zero_le h1
  have := (bits_nat .i64 62 (by decide) wraps_i64 a 2147483648 (by omega) (by decide)).1
  rw [nat_and_31 a (by omega)] at this
  simpa using this

theorem nat_and_mask (a : Nat) (h : a < 65536) : a &&& 4259839 = a ∧ (4194304 + a) &&& 4259839 = 4194304 + a := by
  have e : (4259839 : Nat) = 2 ^ 22 ||| (2 ^ 16 - 1) := by decide
  have e1 : a &&& 2 ^ 22 = 0 := by
    rw [nat_and_pow, Nat.testBit_lt_two_pow (by omega)]; simp
  have e3 : (4194304 + a).testBit 22 = true := by
    have := Nat.testBit_two_pow_add_eq a 22
    rw [show (4194304 : Nat) = 2 ^ 22 by decide, this, Nat.testBit_lt_two_pow (by omega)]; rfl
  have e2 : (4194304 + a) &&& 2 ^ 22 = 4194304 := by
    rw [nat_and_pow, e3]; rfl
  constructor
  · rw [e, Nat.and_or_distrib_left, e1, Nat.and_two_pow_sub_one_eq_mod]
    simp; omega
  · rw [e, Nat.and_or_distrib_left, e2, Nat.and_two_pow_sub_one_eq_mod]
    have h2 : (4194304 + a) % 2 ^ 16 = a := by omega
    rw [h2]
    have := Nat.two_pow_add_eq_or_of_lt (i := 22) (b := a) (by omega) 1
    simpa using this.symm
theorem i64_mask (x : Int) (h1 : 0 ≤ x) (h2 : x < 65536) : bits .and .i64 x 4259839 = x ∧ bits .and .i64 (4194304 + x) 4259839 = 4194304 + x := by
  obtain ⟨a, rfl⟩ := Int.eq_ofNat_of_zero_le h1
  have h := nat_and_mask a (by omega)
  have g1 := (bits_nat .i64 62 (by decide) wraps_i64 a 4259839 (by omega) (by decide)).1
  have g2 := (bits_nat .i64 62 (by decide) wraps_i64 (4194304 + a) 4259839 (by omega) (by decide)).1
  rw [h.1] at g1
  rw [h.2] at g2
  constructor
  · simpa using g1
  · simpa using g2
end Go.Proofs.YtaohcejbjeaemaaGreatDoor
namespace Go.Proofs.YtaohcejbjeaemaaGreatDoor
open Go Go.RowKit

theorem or3 (b0 b1 b2 : Int) (r0 : 0 ≤ b0 ∧ b0 ≤ 255) (r1 : 0 ≤ b1 ∧ b1 ≤ 255) (r2 : 0 ≤ b2 ∧ b2 ≤ 127) : bits .or .i64 (bits .or .i64 (bits .or .i64 0 b0) (b1 * 256)) (b2 * 65536) = b0 + 256 * b1 + 65536 * b2 := by
  rw [i64_or0 b0 (by omega) (by omega), i64_or8 b0 (b1 * 256) (by omega) (by omega) (by omega) (by omega) (by omega), i64_or16 (b0 + b1 * 256) (b2 * 65536) (by omega) (by omega) (by omega) (by omega) (by omega)]
  omega
theorem or2 (b0 b1 : Int) (r0 : 0 ≤ b0 ∧ b0 ≤ 255) (r1 : 0 ≤ b1 ∧ b1 ≤ 127) : bits .or .i64 (bits .or .i64 0 b0) (b1 * 256) = b0 + 256 * b1 := by
  rw [i64_or0 b0 (by omega) (by omega), i64_or8 b0 (b1 * 256) (by omega) (by omega) (by omega) (by omega) (by omega)]
  omega

theorem ret_i64 {a b : Int} (h : a = b) : Ending.returned (.tuple #[.int .i64 a, .nilIface]) = .returned (.tuple #[.int .i64 b, .nilIface]) := by rw [h]

set_option maxHeartbeats 1000000 in
set_option maxRecDepth 100000 in
theorem msn_three {b o : Nat} {w : World} {k : Nat} {b0 b1 b2 : Int} (h0 : w.cell? ⟨b, o, none⟩ = some (.int .u8 b0)) (h1 : w.cell? ⟨b, o + 1, none⟩ = some (.int .u8 b1)) (h2 : w.cell? ⟨b, o + 2, none⟩ = some (.int .u8 b2))
    (r0 : 0 ≤ b0 ∧ b0 ≤ 255) (r1 : 0 ≤ b1 ∧ b1 ≤ 255) (r2 : 0 ≤ b2 ∧ b2 ≤ 127) :
    Calls Tryz.prog 163 #[.slice (some ⟨b, o, none⟩) 3 k, .bool false, .int .i64 5] w fun e w' => e = .returned (.tuple #[.int .i64 (b0 + 256 * b1 + 65536 * b2), .nilIface]) ∧ w = w' := by
  have hor := Lib.hid (or3 b0 b1 b2 r0 r1 r2)
  obtain ⟨r00, r01⟩ := r0
  obtain ⟨r10, r11⟩ := r1
  obtain ⟨r20, r21⟩ := r2
  have htop : bits .and .u8 b2 128 = 0 := u8_top b2 r20 (by omega)
  go_enter Tryz.func163, Tryz.ntmps163
  go_wp2
  refine wp_loop_rounds 4 ?_
  rw [rounds_succ]
  go_wp2
  rw [rounds_succ]
  go_wp2
  rw [rounds_succ]
  go_wp2
  rw [rounds_succ]
  go_wp2
  go_ret2
  exact ⟨ret_i64 hor.out, rfl⟩

set_option maxHeartbeats 1000000 in
set_option maxRecDepth 100000 in
theorem msn_two {b o : Nat} {w : World} {k : Nat} {b0 b1 : Int} (h0 : w.cell? ⟨b, o, none⟩ = some (.int .u8 b0)) (h1 : w.cell? ⟨b, o + 1, none⟩ = some (.int .u8 b1))
    (r0 : 0 ≤ b0 ∧ b0 ≤ 255) (r1 : 0 ≤ b1 ∧ b1 ≤ 127) :
    Calls Tryz.prog 163 #[.slice (some ⟨b, o, none⟩) 2 k, .bool false, .int .i64 5] w fun e w' => e = .returned (.tuple #[.int .i64 (b0 + 256 * b1), .nilIface]) ∧ w = w' := by
  have hor := Lib.hid (or2 b0 b1 r0 r1)
  obtain ⟨r00, r01⟩ := r0
  obtain ⟨r10, r11⟩ := r1
  have htop : bits .and .u8 b1 128 = 0 := u8_top b1 r10 (by omega)
  go_enter Tryz.func163, Tryz.ntmps163
  go_wp2
  refine wp_loop_rounds 3 ?_
  rw [rounds_succ]
  go_wp2
  rw [rounds_succ]
  go_wp2
  rw [rounds_succ]
  go_wp2
  go_ret2
  exact ⟨ret_i64 hor.out, rfl⟩

set_option maxHeartbeats 1000000 in
set_option maxRecDepth 100000 in
theorem msn_one {b o : Nat} {w : World} {k : Nat} {b0 : Int} (mx : Int) (hmx : 1 ≤ mx) (h0 : w.cell? ⟨b, o, none⟩ = some (.int .u8 b0))
    (r0 : 0 ≤ b0 ∧ b0 ≤ 127) :
    Calls Tryz.prog 163 #[.slice (some ⟨b, o, none⟩) 1 k, .bool false, .int .i64 mx] w fun e w' => e = .returned (.tuple #[.int .i64 b0, .nilIface]) ∧ w = w' := by
  have hor := Lib.hid (i64_or0 b0 (by omega) (by omega))
  obtain ⟨r00, r01⟩ := r0
  have htop : bits .and .u8 b0 128 = 0 := u8_top b0 r00 (by omega)
  go_enter Tryz.func163, Tryz.ntmps163
  go_wp2
  refine wp_loop_rounds 2 ?_
  rw [rounds_succ]
  go_wp2
  rw [rounds_succ]
  go_wp2
  go_ret2
  exact ⟨ret_i64 hor.out, rfl⟩

set_option maxHeartbeats 1000000 in
theorem msn_zero {w : World} {p : Option Addr} {k : Nat} (mx : Int) (hmx : 0 ≤ mx) :
    Calls Tryz.prog 163 #[.slice p 0 k, .bool false, .int .i64 mx] w fun e w' => e = .returned (.tuple #[.int .i64 0, .nilIface]) ∧ w = w' := by
  go_enter Tryz.func163, Tryz.ntmps163
  go_wp2
  go_ret2
  exact ⟨rfl, rfl⟩

set_option maxHeartbeats 1000000 in
theorem vlt_yes {w : World} (t h l : Int) (hk : t < h ∧ l < h ∨ h ≤ t ∧ h ≤ l) (hl : l ≤ t) :
    Calls Tryz.prog 164 #[.int .i64 t, .int .i64 h, .int .i64 l] w fun e w' => e = .returned .nilIface ∧ w = w' := by
  rcases hk with ⟨h1, h2⟩ | ⟨h1, h2⟩
  all_goals
    go_enter Tryz.func164, Tryz.ntmps164
    go_wp2
    go_ret
    exact ⟨rfl, rfl⟩

set_option maxHeartbeats 1000000 in
theorem vlt_no {w : World} (t h l : Int) (hk : t < h ∧ l < h ∨ h ≤ t ∧ h ≤ l) (hl : t < l) :
    Calls Tryz.prog 164 #[.int .i64 t, .int .i64 h, .int .i64 l] w (Fails 57 w) := by
  rcases hk with ⟨h1, h2⟩ | ⟨h1, h2⟩
  all_goals
    go_enter Tryz.func164, Tryz.ntmps164
    go_wp2_with (go_at_call 30; refine (scriptError_any _ _ _).mono ?_; rintro e w' ⟨rfl, rfl⟩)
    go_ret
    exact ⟨_, rfl, (Below.refl _ _).alloc (Nat.le_refl _) _⟩
end Go.Proofs.YtaohcejbjeaemaaGreatDoor
namespace Go.Proofs.YtaohcejbjeaemaaGreatDoor
open Go Go.RowKit

/-- What an opcode's table row leaves: a new block. -/
def OpMade (v len : Int) (w : World) (e : Ending) (w' : World) : Prop := ∃ s : ByteArray, e = .returned (.pointer (some ⟨w.heap.size, 0, none⟩)) ∧ w.alloc (.cells #[.int .u8 v, .string s, .int .i64 len] 142) = w'

end Go.Proofs.YtaohcejbjeaemaaGreatDoor

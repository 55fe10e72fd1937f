import Derived.Test.YtbnjggklinickaaGreatDoorRStack
import Derived.Test.YtbnjggklinickaaGreatDoorRBits
namespace Go.Proofs.YtbnjggklinickaaGreatDoorR
open Go Go.RowKit

theorem or3 (b0 b1 b2 : Int) (r0 : 0 ≤ b0 ∧ b0 ≤ 255) (r1 : 0 ≤ b1 ∧ b1 ≤ 255) (r2 : 0 ≤ b2 ∧ b2 ≤ 127) : bits .or .i64 (bits .or .i64 (bits .or .i64 0 b0) (b1 * 256)) (b2 * 65536) = b0 + 256 * b1 + 65536 * b2 := by
  rw [i64_or0 b0 (by omega) (by omega), i64_or8 b0 (b1 * 256) (by omega) (by omega) (by omega) (by omega) (by omega), i64_or16 (b0 + b1 * 256) (b2 * 65536) (by omega) (by omega) (by omega) (by omega) (by omega)]
  omega
theorem or2 (b0 b1 : Int) (r0 : 0 ≤ b0 ∧ b0 ≤ 255) (r1 : 0 ≤ b1 ∧ b1 ≤ 127) : bits .or .i64 (bits .or .i64 0 b0) (b1 * 256) = b0 + 256 * b1 := by
  rw [i64_or0 b0 (by omega) (by omega), i64_or8 b0 (b1 * 256) (by omega) (by omega) (by omega) (by omega) (by omega)]
  omega

theorem ret_i64 {a b : Int} (h : a = b) : Ending.returned (.tuple #[.int .i64 a, .nilIface]) = .returned (.tuple #[.int .i64 b, .nilIface]) := by rw [h]

set_option maxHeartbeats 1000000 in
set_option maxRecDepth 100000 in
theorem msn_three {b o : Nat} {w : World} {k : Nat} {b0 b1 b2 : Int} (h0 : w.cell? ⟨b, o, none⟩ = some (.int .u8 b0)) (h1 : w.cell? ⟨b, o + 1, none⟩ = some (.int .u8 b1)) (h2 : w.cell? ⟨b, o + 2, none⟩ = some (.int .u8 b2))
    (r0 : 0 ≤ b0 ∧ b0 ≤ 255) (r1 : 0 ≤ b1 ∧ b1 ≤ 255) (r2 : 0 ≤ b2 ∧ b2 ≤ 127) :
    Calls Tryz.prog 157 #[.slice (some ⟨b, o, none⟩) 3 k, .bool false, .int .i64 5] w fun e w' => e = .returned (.tuple #[.int .i64 (b0 + 256 * b1 + 65536 * b2), .nilIface]) ∧ w = w' := by
  have hor := Lib.hid (or3 b0 b1 b2 r0 r1 r2)
  obtain ⟨r00, r01⟩ := r0
  obtain ⟨r10, r11⟩ := r1
  obtain ⟨r20, r21⟩ := r2
  have htop : bits .and .u8 b2 128 = 0 := u8_top b2 r20 (by omega)
  go_enter Tryz.func157, Tryz.ntmps157
  go_wp2
  refine wp_loop_rounds 4 ?_
  rw [rounds_succ]
  go_wp2
  rw [rounds_succ]
  go_wp2
  rw [rounds_succ]
  go_wp2
  rw [rounds_succ]
  go_wp2
  go_ret2
  exact ⟨ret_i64 hor.out, rfl⟩
#print axioms msn_three

set_option maxHeartbeats 1000000 in
set_option maxRecDepth 100000 in
theorem msn_two {b o : Nat} {w : World} {k : Nat} {b0 b1 : Int} (h0 : w.cell? ⟨b, o, none⟩ = some (.int .u8 b0)) (h1 : w.cell? ⟨b, o + 1, none⟩ = some (.int .u8 b1))
    (r0 : 0 ≤ b0 ∧ b0 ≤ 255) (r1 : 0 ≤ b1 ∧ b1 ≤ 127) :
    Calls Tryz.prog 157 #[.slice (some ⟨b, o, none⟩) 2 k, .bool false, .int .i64 5] w fun e w' => e = .returned (.tuple #[.int .i64 (b0 + 256 * b1), .nilIface]) ∧ w = w' := by
  have hor := Lib.hid (or2 b0 b1 r0 r1)
  obtain ⟨r00, r01⟩ := r0
  obtain ⟨r10, r11⟩ := r1
  have htop : bits .and .u8 b1 128 = 0 := u8_top b1 r10 (by omega)
  go_enter Tryz.func157, Tryz.ntmps157
  go_wp2
  refine wp_loop_rounds 3 ?_
  rw [rounds_succ]
  go_wp2
  rw [rounds_succ]
  go_wp2
  rw [rounds_succ]
  go_wp2
  go_ret2
  exact ⟨ret_i64 hor.out, rfl⟩
#print axioms msn_two

set_option maxHeartbeats 1000000 in
set_option maxRecDepth 100000 in
theorem msn_one {b o : Nat} {w : World} {k : Nat} {b0 : Int} (mx : Int) (hmx : 1 ≤ mx) (h0 : w.cell? ⟨b, o, none⟩ = some (.int .u8 b0))
    (r0 : 0 ≤ b0 ∧ b0 ≤ 127) :
    Calls Tryz.prog 157 #[.slice (some ⟨b, o, none⟩) 1 k, .bool false, .int .i64 mx] w fun e w' => e = .returned (.tuple #[.int .i64 b0, .nilIface]) ∧ w = w' := by
  have hor := Lib.hid (i64_or0 b0 (by omega) (by omega))
  obtain ⟨r00, r01⟩ := r0
  have htop : bits .and .u8 b0 128 = 0 := u8_top b0 r00 (by omega)
  go_enter Tryz.func157, Tryz.ntmps157
  go_wp2
  refine wp_loop_rounds 2 ?_
  rw [rounds_succ]
  go_wp2
  rw [rounds_succ]
  go_wp2
  go_ret2
  exact ⟨ret_i64 hor.out, rfl⟩
#print axioms msn_one

set_option maxHeartbeats 1000000 in
theorem msn_zero {w : World} {p : Option Addr} {k : Nat} (mx : Int) (hmx : 0 ≤ mx) :
    Calls Tryz.prog 157 #[.slice p 0 k, .bool false, .int .i64 mx] w fun e w' => e = .returned (.tuple #[.int .i64 0, .nilIface]) ∧ w = w' := by
  go_enter Tryz.func157, Tryz.ntmps157
  go_wp2
  go_ret2
  exact ⟨rfl, rfl⟩
#print axioms msn_zero

set_option maxHeartbeats 1000000 in
theorem vlt_yes {w : World} (t h l : Int) (hk : t < h ∧ l < h ∨ h ≤ t ∧ h ≤ l) (hl : l ≤ t) :
    Calls Tryz.prog 158 #[.int .i64 t, .int .i64 h, .int .i64 l] w fun e w' => e = .returned .nilIface ∧ w = w' := by
  rcases hk with ⟨h1, h2⟩ | ⟨h1, h2⟩
  all_goals
    go_enter Tryz.func158, Tryz.ntmps158
    go_wp2
    go_ret
    exact ⟨rfl, rfl⟩
#print axioms vlt_yes

set_option maxHeartbeats 1000000 in
theorem vlt_no {w : World} (t h l : Int) (hk : t < h ∧ l < h ∨ h ≤ t ∧ h ≤ l) (hl : t < l) :
    Calls Tryz.prog 158 #[.int .i64 t, .int .i64 h, .int .i64 l] w (Fails 57 w) := by
  rcases hk with ⟨h1, h2⟩ | ⟨h1, h2⟩
  all_goals
    go_enter Tryz.func158, Tryz.ntmps158
    go_wp2_with (go_at_call 22; refine (scriptError_any _ _ _).mono ?_; rintro e w' ⟨rfl, rfl⟩)
    go_ret
    exact ⟨_, rfl, (Below.refl _ _).alloc (Nat.le_refl _) _⟩
#print axioms vlt_no
end Go.Proofs.YtbnjggklinickaaGreatDoorR

import Derived.Test.YtbnjggklinickaaGreatDoorRSpec
namespace Go.Proofs.YtbnjggklinickaaGreatDoorR
open Go Go.RowKit

set_option maxHeartbeats 4000000 in
set_option maxRecDepth 100000 in
theorem number_10 (n : Int) (h1 : 1 ≤ n) (h2 : n ≤ 127) (w : World) : Calls Tryz.prog 5 #[.int .i64 n] w (Bytes [n] w) := by
  obtain ⟨i0, hi, hz0, hz1, hz2⟩ := info_parts info_u8
  have q0 : ¬ 0 < n / 256 := by omega
  go_enter Tryz.func5, Tryz.ntmps5
  go_wp2_with fail
  refine wp_loop_rounds 2 ?_
  rw [rounds_succ]
  go_wp2_with (at_builtin; refine wpList_byte rfl _ _ 24 rfl w.heap.size i0 Tryz.underlying24 hi hz0 hz1 hz2 (.slice none 0 0) [] _ rfl (Own.nil _ _) (by omega) rfl (by simp) (Nat.le_refl _) 1 rfl ?_)
  intro g1 cap1 w1 o1 b1 c1
  have c1 : w1.cell? ⟨g1, 0, none⟩ = some (.int .u8 (n)) := c1
  go_wp2_with fail
  rw [rounds_succ]
  have HO := Lib.hid o1
  have HB := Lib.hid b1
  clear o1 b1
  go_wp2_with fail
  go_ret
  exact ⟨_, rfl, HB.out, HO.out⟩
#print axioms number_10


set_option maxHeartbeats 4000000 in
set_option maxRecDepth 100000 in
theorem number_11 (n : Int) (h1 : 128 ≤ n) (h2 : n ≤ 255) (w : World) : Calls Tryz.prog 5 #[.int .i64 n] w (Bytes [n, 0] w) := by
  obtain ⟨i0, hi, hz0, hz1, hz2⟩ := info_parts info_u8
  have q0 : ¬ 0 < n / 256 := by omega
  go_enter Tryz.func5, Tryz.ntmps5
  go_wp2_with fail
  refine wp_loop_rounds 2 ?_
  rw [rounds_succ]
  go_wp2_with (at_builtin; refine wpList_byte rfl _ _ 24 rfl w.heap.size i0 Tryz.underlying24 hi hz0 hz1 hz2 (.slice none 0 0) [] _ rfl (Own.nil _ _) (by omega) rfl (by simp) (Nat.le_refl _) 1 rfl ?_)
  intro g1 cap1 w1 o1 b1 c1
  have c1 : w1.cell? ⟨g1, 0, none⟩ = some (.int .u8 (n)) := c1
  go_wp2_with fail
  rw [rounds_succ]
  go_wp2_with (at_builtin; refine wpList_byte rfl _ _ 24 rfl w.heap.size i0 Tryz.underlying24 hi hz0 hz1 hz2 (.slice (some ⟨g1, 0, none⟩) 1 cap1) [n] _ rfl o1 (by omega) rfl (by simp) b1.size 2 rfl ?_)
  intro g2 cap2 w2 o2 b2 c2
  have b2 := b1.trans b2
  have HO := Lib.hid o2
  have HB := Lib.hid b2
  clear o1 b1 o2 b2
  go_wp2_with fail
  go_ret
  exact ⟨_, rfl, HB.out, HO.out⟩
#print axioms number_11


set_option maxHeartbeats 4000000 in
set_option maxRecDepth 100000 in
theorem number_20 (n : Int) (h1 : 256 ≤ n) (h2 : n ≤ 32767) (w : World) : Calls Tryz.prog 5 #[.int .i64 n] w (Bytes [n % 256, n / 256] w) := by
  obtain ⟨i0, hi, hz0, hz1, hz2⟩ := info_parts info_u8
  have q0 : 0 < n / 256 := by omega
  have q1 : ¬ 0 < n / 256 / 256 := by omega
  have q2 : n / 256 < 128 := by omega
  go_enter Tryz.func5, Tryz.ntmps5
  go_wp2_with fail
  refine wp_loop_rounds 3 ?_
  rw [rounds_succ]
  go_wp2_with (at_builtin; refine wpList_byte rfl _ _ 24 rfl w.heap.size i0 Tryz.underlying24 hi hz0 hz1 hz2 (.slice none 0 0) [] _ rfl (Own.nil _ _) (by omega) rfl (by simp) (Nat.le_refl _) 1 rfl ?_)
  intro g1 cap1 w1 o1 b1 c1
  go_wp2_with fail
  rw [rounds_succ]
  go_wp2_with (at_builtin; refine wpList_byte rfl _ _ 24 rfl w.heap.size i0 Tryz.underlying24 hi hz0 hz1 hz2 (.slice (some ⟨g1, 0, none⟩) 1 cap1) [n % 256] _ rfl o1 (by omega) rfl (by simp) b1.size 2 rfl ?_)
  intro g2 cap2 w2 o2 b2 c2
  have b2 := b1.trans b2
  have c2 : w2.cell? ⟨g2, 1, none⟩ = some (.int .u8 (n / 256)) := c2
  go_wp2_with fail
  rw [rounds_succ]
  have HO := Lib.hid o2
  have HB := Lib.hid b2
  clear o1 b1 o2 b2
  go_wp2_with fail
  go_ret
  exact ⟨_, rfl, HB.out, HO.out⟩
#print axioms number_20


set_option maxHeartbeats 4000000 in
set_option maxRecDepth 100000 in
theorem number_21 (n : Int) (h1 : 32768 ≤ n) (h2 : n ≤ 65535) (w : World) : Calls Tryz.prog 5 #[.int .i64 n] w (Bytes [n % 256, n / 256, 0] w) := by
  obtain ⟨i0, hi, hz0, hz1, hz2⟩ := info_parts info_u8
  have q0 : 0 < n / 256 := by omega
  have q1 : ¬ 0 < n / 256 / 256 := by omega
  have q2 : 128 ≤ n / 256 := by omega
  go_enter Tryz.func5, Tryz.ntmps5
  go_wp2_with fail
  refine wp_loop_rounds 3 ?_
  rw [rounds_succ]
  go_wp2_with (at_builtin; refine wpList_byte rfl _ _ 24 rfl w.heap.size i0 Tryz.underlying24 hi hz0 hz1 hz2 (.slice none 0 0) [] _ rfl (Own.nil _ _) (by omega) rfl (by simp) (Nat.le_refl _) 1 rfl ?_)
  intro g1 cap1 w1 o1 b1 c1
  go_wp2_with fail
  rw [rounds_succ]
  go_wp2_with (at_builtin; refine wpList_byte rfl _ _ 24 rfl w.heap.size i0 Tryz.underlying24 hi hz0 hz1 hz2 (.slice (some ⟨g1, 0, none⟩) 1 cap1) [n % 256] _ rfl o1 (by omega) rfl (by simp) b1.size 2 rfl ?_)
  intro g2 cap2 w2 o2 b2 c2
  have b2 := b1.trans b2
  have c2 : w2.cell? ⟨g2, 1, none⟩ = some (.int .u8 (n / 256)) := c2
  go_wp2_with fail
  rw [rounds_succ]
  go_wp2_with (at_builtin; refine wpList_byte rfl _ _ 24 rfl w.heap.size i0 Tryz.underlying24 hi hz0 hz1 hz2 (.slice (some ⟨g2, 0, none⟩) 2 cap2) [n % 256, n / 256] _ rfl o2 (by omega) rfl (by simp) b2.size 3 rfl ?_)
  intro g3 cap3 w3 o3 b3 c3
  have b3 := b2.trans b3
  have HO := Lib.hid o3
  have HB := Lib.hid b3
  clear o1 b1 o2 b2 o3 b3
  go_wp2_with fail
  go_ret
  exact ⟨_, rfl, HB.out, HO.out⟩
#print axioms number_21


set_option maxHeartbeats 4000000 in
set_option maxRecDepth 100000 in
theorem number_30 (n : Int) (h1 : 4194304 ≤ n) (h2 : n ≤ 4259839) (w : World) : Calls Tryz.prog 5 #[.int .i64 n] w (Bytes [n % 256, n / 256 % 256, n / 256 / 256] w) := by
  obtain ⟨i0, hi, hz0, hz1, hz2⟩ := info_parts info_u8
  have q0 : 0 < n / 256 := by omega
  have q1 : 0 < n / 256 / 256 := by omega
  have q2 : ¬ 0 < n / 256 / 256 / 256 := by omega
  have q3 : n / 256 / 256 < 128 := by omega
  go_enter Tryz.func5, Tryz.ntmps5
  go_wp2_with fail
  refine wp_loop_rounds 4 ?_
  rw [rounds_succ]
  go_wp2_with (at_builtin; refine wpList_byte rfl _ _ 24 rfl w.heap.size i0 Tryz.underlying24 hi hz0 hz1 hz2 (.slice none 0 0) [] _ rfl (Own.nil _ _) (by omega) rfl (by simp) (Nat.le_refl _) 1 rfl ?_)
  intro g1 cap1 w1 o1 b1 c1
  go_wp2_with fail
  rw [rounds_succ]
  go_wp2_with (at_builtin; refine wpList_byte rfl _ _ 24 rfl w.heap.size i0 Tryz.underlying24 hi hz0 hz1 hz2 (.slice (some ⟨g1, 0, none⟩) 1 cap1) [n % 256] _ rfl o1 (by omega) rfl (by simp) b1.size 2 rfl ?_)
  intro g2 cap2 w2 o2 b2 c2
  have b2 := b1.trans b2
  go_wp2_with fail
  rw [rounds_succ]
  go_wp2_with (at_builtin; refine wpList_byte rfl _ _ 24 rfl w.heap.size i0 Tryz.underlying24 hi hz0 hz1 hz2 (.slice (some ⟨g2, 0, none⟩) 2 cap2) [n % 256, n / 256 % 256] _ rfl o2 (by omega) rfl (by simp) b2.size 3 rfl ?_)
  intro g3 cap3 w3 o3 b3 c3
  have b3 := b2.trans b3
  have c3 : w3.cell? ⟨g3, 2, none⟩ = some (.int .u8 (n / 256 / 256)) := c3
  go_wp2_with fail
  rw [rounds_succ]
  have HO := Lib.hid o3
  have HB := Lib.hid b3
  clear o1 b1 o2 b2 o3 b3
  go_wp2_with fail
  go_ret
  exact ⟨_, rfl, HB.out, HO.out⟩
#print axioms number_30


end Go.Proofs.YtbnjggklinickaaGreatDoorR

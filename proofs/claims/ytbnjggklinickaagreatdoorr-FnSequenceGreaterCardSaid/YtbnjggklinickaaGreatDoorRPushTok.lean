import Derived.Test.YtbnjggklinickaaGreatDoorRNumb
namespace Go.Proofs.YtbnjggklinickaaGreatDoorR
open Go Go.RowKit

theorem least_nil (p : Option Addr) (k : Nat) (w : World) : Calls Tryz.prog 8 #[.slice p 0 k] w fun e w' => e = .returned (.int .i64 0) ∧ w = w' := by
  go_enter Tryz.func8, Tryz.ntmps8
  go_wp2
  go_ret
  exact ⟨rfl, rfl⟩
#print axioms least_nil
theorem least_small {w : World} {b o k : Nat} {m : Int} (hc : w.cell? ⟨b, o, none⟩ = some (.int .u8 m)) (h1 : 1 ≤ m) (h2 : m ≤ 16) : Calls Tryz.prog 8 #[.slice (some ⟨b, o, none⟩) 1 k] w fun e w' => e = .returned (.int .i64 (80 + m)) ∧ w = w' := by
  go_enter Tryz.func8, Tryz.ntmps8
  go_wp2
  go_ret
  exact ⟨rfl, rfl⟩
#print axioms least_small
theorem least_one {w : World} {b o k : Nat} {m : Int} (hc : w.cell? ⟨b, o, none⟩ = some (.int .u8 m)) (h1 : 17 ≤ m) (h2 : m ≤ 127) : Calls Tryz.prog 8 #[.slice (some ⟨b, o, none⟩) 1 k] w fun e w' => e = .returned (.int .i64 1) ∧ w = w' := by
  have q1 : ¬ m ≤ 16 := by omega
  have q2 : ¬ m = 129 := by omega
  go_enter Tryz.func8, Tryz.ntmps8
  go_wp2
  go_ret
  exact ⟨rfl, rfl⟩
#print axioms least_one
theorem least_two (p : Option Addr) (k : Nat) (w : World) : Calls Tryz.prog 8 #[.slice p 2 k] w fun e w' => e = .returned (.int .i64 2) ∧ w = w' := by
  go_enter Tryz.func8, Tryz.ntmps8
  go_wp2
  go_ret
  exact ⟨rfl, rfl⟩
#print axioms least_two
theorem least_three (p : Option Addr) (k : Nat) (w : World) : Calls Tryz.prog 8 #[.slice p 3 k] w fun e w' => e = .returned (.int .i64 3) ∧ w = w' := by
  go_enter Tryz.func8, Tryz.ntmps8
  go_wp2
  go_ret
  exact ⟨rfl, rfl⟩
#print axioms least_three

theorem Own.lit (w : World) (m : Int) : Own w.heap.size (w.alloc (.cells #[.int .u8 m] 5)) (.slice (some ⟨w.heap.size, 0, none⟩) 1 1) [m] :=
  World.ownsRow_lit w #[.int .u8 m] 1 (Nat.le_refl _) (by simp [maxLen]) rfl

set_option maxHeartbeats 1000000 in
set_option maxRecDepth 100000 in
theorem ptok_nil (p : Option Addr) (k : Nat) (w : World) : Calls Tryz.prog 4 #[.slice p 0 k] w (Bytes [0] w) := by
  go_enter Tryz.func4, Tryz.ntmps4
  go_wp2_with (go_at_call 8; refine (least_nil _ _ _).mono ?_; rintro e w' ⟨rfl, rfl⟩)
  go_ret
  exact ⟨_, rfl, (Below.refl _ _).alloc (Nat.le_refl _) _, Own.lit w 0⟩
#print axioms ptok_nil
set_option maxHeartbeats 1000000 in
set_option maxRecDepth 100000 in
theorem ptok_small {M : Nat → Prop} {w : World} {x : Value} {m : Int} (h1 : 1 ≤ m) (h2 : m ≤ 16) (hx : Elem M w x [m]) : Calls Tryz.prog 4 #[x] w (Bytes [80 + m] w) := by
  obtain ⟨p, k, rfl, e1, e2, e3, e4, e5⟩ := hx
  obtain ⟨b, o, rfl, hMb, hc⟩ := e5 (by simp)
  have c0 : w.cell? ⟨b, o, none⟩ = some (.int .u8 m) := hc 0 (by simp)
  clear e1 e2 e3 e4 e5 hc
  go_enter Tryz.func4, Tryz.ntmps4
  go_wp2_with (go_at_call 8; refine (least_small c0 h1 h2).mono ?_; rintro e w' ⟨rfl, rfl⟩)
  go_ret
  exact ⟨_, rfl, (Below.refl _ _).alloc (Nat.le_refl _) _, Own.lit w (80 + m)⟩
#print axioms ptok_small

set_option maxHeartbeats 2000000 in
set_option maxRecDepth 100000 in
theorem ptok_one {M : Nat → Prop} {w : World} {x : Value} {b0 : Int} (h1 : 17 ≤ b0) (h2 : b0 ≤ 127) (hx : Elem M w x [b0]) (hM : ∀ k, M k → k < w.heap.size) : Calls Tryz.prog 4 #[x] w (Bytes (1 :: [b0]) w) := by
  obtain ⟨i0, hi, hz0, hz1, hz2⟩ := info_parts info_u8
  have hx1 : Elem M (w.alloc (.cells #[.int .u8 1] 5)) x [b0] := hx.kept ((Kept.refl M w).alloc hM _)
  have HX1 := Lib.hid hx1
  obtain ⟨p, k, rfl, e1, e2, e3, e4, e5⟩ := hx
  obtain ⟨b, o, rfl, hMb, hc⟩ := e5 (by simp)
  have c0 : w.cell? ⟨b, o, none⟩ = some (.int .u8 _) := hc 0 (by simp)
  simp only [List.getD_cons_zero] at c0
  clear hx1 e1 e2 e3 e4 e5 hc
  go_enter Tryz.func4, Tryz.ntmps4
  go_wp2_with (go_at_call 8; refine (least_one c0 h1 h2).mono ?_; rintro e w' ⟨rfl, rfl⟩)
  refine wp_loop_once ?_
  go_wp2_with (at_builtin; refine wpList_append_bytes rfl _ _ 24 rfl w.heap.size 5 i0 Tryz.underlying24 hi hz0 hz1 hz2 (.slice (some ⟨w.heap.size, 0, none⟩) 1 1) [1] rfl (Own.lit w 1) _ [b0] rfl HX1.out (by simp) (by simp) ?_)
  intro v' w1 ho hg
  have hB : Below w.heap.size w w1 := ((Below.refl _ _).alloc (Nat.le_refl _) _).grown hg (by simp) (fun k hk => by simp [Value.ownBlock] at hk; omega)
  have HO := Lib.hid ho
  have HB := Lib.hid hB
  clear ho hg hB
  go_wp2_with fail
  go_ret
  exact ⟨_, rfl, HB.out, HO.out⟩
#print axioms ptok_one

set_option maxHeartbeats 2000000 in
set_option maxRecDepth 100000 in
theorem ptok_two {M : Nat → Prop} {w : World} {x : Value} {b0 b1 : Int} (hx : Elem M w x [b0, b1]) (hM : ∀ k, M k → k < w.heap.size) : Calls Tryz.prog 4 #[x] w (Bytes (2 :: [b0, b1]) w) := by
  obtain ⟨i0, hi, hz0, hz1, hz2⟩ := info_parts info_u8
  have hx1 : Elem M (w.alloc (.cells #[.int .u8 2] 5)) x [b0, b1] := hx.kept ((Kept.refl M w).alloc hM _)
  have HX1 := Lib.hid hx1
  obtain ⟨p, k, rfl, e1, e2, e3, e4, e5⟩ := hx
  obtain ⟨b, o, rfl, hMb, hc⟩ := e5 (by simp)
  have c0 : w.cell? ⟨b, o, none⟩ = some (.int .u8 _) := hc 0 (by simp)
  simp only [List.getD_cons_zero] at c0
  clear hx1 e1 e2 e3 e4 e5 hc
  go_enter Tryz.func4, Tryz.ntmps4
  go_wp2_with (go_at_call 8; refine (least_two _ _ _).mono ?_; rintro e w' ⟨rfl, rfl⟩)
  refine wp_loop_once ?_
  go_wp2_with (at_builtin; refine wpList_append_bytes rfl _ _ 24 rfl w.heap.size 5 i0 Tryz.underlying24 hi hz0 hz1 hz2 (.slice (some ⟨w.heap.size, 0, none⟩) 1 1) [2] rfl (Own.lit w 2) _ [b0, b1] rfl HX1.out (by simp) (by simp) ?_)
  intro v' w1 ho hg
  have hB : Below w.heap.size w w1 := ((Below.refl _ _).alloc (Nat.le_refl _) _).grown hg (by simp) (fun k hk => by simp [Value.ownBlock] at hk; omega)
  have HO := Lib.hid ho
  have HB := Lib.hid hB
  clear ho hg hB
  go_wp2_with fail
  go_ret
  exact ⟨_, rfl, HB.out, HO.out⟩
#print axioms ptok_two

set_option maxHeartbeats 2000000 in
set_option maxRecDepth 100000 in
theorem ptok_three {M : Nat → Prop} {w : World} {x : Value} {b0 b1 b2 : Int} (hx : Elem M w x [b0, b1, b2]) (hM : ∀ k, M k → k < w.heap.size) : Calls Tryz.prog 4 #[x] w (Bytes (3 :: [b0, b1, b2]) w) := by
  obtain ⟨i0, hi, hz0, hz1, hz2⟩ := info_parts info_u8
  have hx1 : Elem M (w.alloc (.cells #[.int .u8 3] 5)) x [b0, b1, b2] := hx.kept ((Kept.refl M w).alloc hM _)
  have HX1 := Lib.hid hx1
  obtain ⟨p, k, rfl, e1, e2, e3, e4, e5⟩ := hx
  obtain ⟨b, o, rfl, hMb, hc⟩ := e5 (by simp)
  have c0 : w.cell? ⟨b, o, none⟩ = some (.int .u8 _) := hc 0 (by simp)
  simp only [List.getD_cons_zero] at c0
  clear hx1 e1 e2 e3 e4 e5 hc
  go_enter Tryz.func4, Tryz.ntmps4
  go_wp2_with (go_at_call 8; refine (least_three _ _ _).mono ?_; rintro e w' ⟨rfl, rfl⟩)
  refine wp_loop_once ?_
  go_wp2_with (at_builtin; refine wpList_append_bytes rfl _ _ 24 rfl w.heap.size 5 i0 Tryz.underlying24 hi hz0 hz1 hz2 (.slice (some ⟨w.heap.size, 0, none⟩) 1 1) [3] rfl (Own.lit w 3) _ [b0, b1, b2] rfl HX1.out (by simp) (by simp) ?_)
  intro v' w1 ho hg
  have hB : Below w.heap.size w w1 := ((Below.refl _ _).alloc (Nat.le_refl _) _).grown hg (by simp) (fun k hk => by simp [Value.ownBlock] at hk; omega)
  have HO := Lib.hid ho
  have HB := Lib.hid hB
  clear ho hg hB
  go_wp2_with fail
  go_ret
  exact ⟨_, rfl, HB.out, HO.out⟩
#print axioms ptok_three

end Go.Proofs.YtbnjggklinickaaGreatDoorR

import Derived.Test.YtbnjggklinickaaGreatDoorRFetch
import Derived.Test.YtbnjggklinickaaGreatDoorRStack
import Derived.LoopN
namespace Go.Proofs.YtbnjggklinickaaGreatDoorR
open Go Go.RowKit

theorem copies_zero (p : Option Addr) (k : Nat) (w : World) : Calls Tryz.prog 12 #[.slice p 0 k] w fun e w' => e = .returned (.slice none 0 0) ∧ w = w' := by
  go_enter Tryz.func12, Tryz.ntmps12
  go_wp2_with fail
  refine wp_loop_once ?_
  go_wp2_with fail
  go_ret
  exact ⟨rfl, rfl⟩
#print axioms copies_zero

theorem kindOf_nil (w : World) : Calls Tryz.prog 10 #[.nilIface] w fun e w' => e = .returned (.int .i64 0) ∧ w = w' := by
  go_enter Tryz.func10, Tryz.ntmps10
  go_wp2
  go_ret
  exact ⟨rfl, rfl⟩
#print axioms kindOf_nil

set_option maxRecDepth 100000 in
theorem kindOf_57 (x : ByteArray) (w : World) : Calls Tryz.prog 10 #[.iface 67 (.agg #[.int .i64 57, .string x])] w fun e w' => e = .returned (.int .i64 58) ∧ Below w.heap.size w w' := by
  have hta : ∀ w : World, Sem.run Tryz.prog (Instr.typeAssert (.iface 67 (.agg #[.int .i64 57, .string x])) 51 67 true) w = .ok (.tuple #[.agg #[.int .i64 57, .string x], .bool true]) w := fun w => by kernel_rfl
  go_enter Tryz.func10, Tryz.ntmps10
  go_wp2_with fail
  go_ret
  exact ⟨rfl, (Below.refl _ _).alloc (Nat.le_refl _) _⟩
#print axioms kindOf_57

set_option maxRecDepth 100000 in
theorem getStack_zero {b o : Nat} {w : World} {p : Option Addr} {k : Nat} (hc : w.cell? ⟨b, o, none⟩ = some (.slice p 0 k)) :
    Calls Tryz.prog 21 #[.pointer (some ⟨b, o, none⟩)] w fun e w' => (∃ q m, e = .returned (.slice q 0 m)) ∧ Below w.heap.size w w' := by
  have hmk : ∀ w : World, (Instr.makeSlice 38 (.int .i32 0) (.int .i32 0)).run Tryz.prog w = .ok (.slice (some ⟨w.heap.size, 0, none⟩) 0 0) (w.alloc (.cells #[] 24)) := fun w => by kernel_rfl
  go_enter Tryz.func21, Tryz.ntmps21
  go_wp2_with (go_at_call 36; refine (depth_any (n := 0) hc (by decide)).mono ?_; rintro e w' ⟨rfl, rfl⟩)
  refine wp_loop_once ?_
  go_wp2_with fail
  go_ret
  exact ⟨⟨_, _, rfl⟩, (Below.refl _ _).alloc (Nat.le_refl _) _⟩
#print axioms getStack_zero

set_option maxHeartbeats 1000000 in
set_option maxRecDepth 100000 in
theorem getStack_one {b o : Nat} {w : World} {g k : Nat} {pp : Option Addr} {m mk : Nat} (hc : w.cell? ⟨b, o, none⟩ = some (.slice (some ⟨g, 0, none⟩) 1 k)) (hg : w.cell? ⟨g, 0, none⟩ = some (.slice pp m mk)) :
    Calls Tryz.prog 21 #[.pointer (some ⟨b, o, none⟩)] w fun e w' => e = .returned (.slice (some ⟨w.heap.size, 0, none⟩) 1 1) ∧ Below w.heap.size w w' ∧ w'.cell? ⟨w.heap.size, 0, none⟩ = some (.slice pp m mk) := by
  have hmk : ∀ w : World, (Instr.makeSlice 38 (.int .i32 1) (.int .i32 1)).run Tryz.prog w = .ok (.slice (some ⟨w.heap.size, 0, none⟩) 1 1) (w.alloc (.cells #[.slice none 0 0] 24)) := fun w => by kernel_rfl
  have lb := World.block_lt_of_cell? _ _ hc
  have lg := World.block_lt_of_cell? _ _ hg
  go_enter Tryz.func21, Tryz.ntmps21
  go_wp2_with (go_at_call 36; refine (depth_any (n := 1) hc (by decide)).mono ?_; rintro e w' ⟨rfl, rfl⟩)
  obtain ⟨w1, hw1⟩ : ∃ w1, w1 = w.alloc (.cells #[.slice none 0 0] 24) := ⟨_, rfl⟩
  have hb1 : w1.heap[w.heap.size]? = some (.cells #[.slice none 0 0] 24 (0, 0)) := by rw [hw1]; exact block_new _ _
  have hk1 : Below w.heap.size w w1 := by rw [hw1]; exact (Below.refl _ _).alloc (Nat.le_refl _) _
  have hc1 := (World.cell?_of_block (a := ⟨b, o, none⟩) (hk1.block b lb)).trans hc
  have hg1 := (World.cell?_of_block (a := ⟨g, 0, none⟩) (hk1.block g lg)).trans hg
  have cn : w1.cell? ⟨w.heap.size, 0, none⟩ = some (.slice none 0 0) := by rw [cell_at hb1]; rfl
  have fn : w1.frozen? ⟨w.heap.size, 0, none⟩ = false := free_at hb1 0
  rw [← hw1]
  have HB1 := Lib.hid hb1
  have HK1 := Lib.hid hk1
  clear hb1 hk1 hc hg hmk hw1
  refine wp_loop_rounds 2 ?_
  rw [rounds_succ]
  go_wp2_with (go_at_call 43; refine (peek_any (n := 1) hc1 (by decide) _ 0 rfl (by decide) hg1).mono ?_; rintro e w' ⟨rfl, rfl⟩)
  rw [rounds_succ]
  go_wp2_with fail
  go_ret
  refine ⟨rfl, Kept.below ((kept_of_below HK1.out).setCell (p := ⟨w.heap.size, 0, none⟩) (Nat.lt_irrefl _) _), ?_⟩
  rw [cell_at (block_setCell HB1.out 0 _)]; rfl
#print axioms getStack_one

set_option maxHeartbeats 1000000 in
set_option maxRecDepth 100000 in
theorem copies_one {M : Nat → Prop} {w : World} {g k : Nat} {x : Value} {bs : List Int} (hc : w.cell? ⟨g, 0, none⟩ = some x) (hx : Elem M w x bs) (hM : ∀ k, M k → k < w.heap.size) (hl : bs.length ≤ 100000) :
    Calls Tryz.prog 12 #[.slice (some ⟨g, 0, none⟩) 1 k] w fun e w' => (∃ v, e = .returned v) ∧ Below w.heap.size w w' := by
  obtain ⟨i0, hi, hz0, hz1, hz2⟩ := info_parts info_sl
  obtain ⟨p, xk, rfl, h1⟩ := hx
  have hx : Elem M w (.slice p bs.length xk) bs := ⟨p, xk, rfl, h1⟩
  clear h1
  have HX := Lib.hid hx
  clear hx
  go_enter Tryz.func12, Tryz.ntmps12
  go_wp2_with fail
  refine wp_loop_rounds 2 ?_
  rw [rounds_succ]
  go_wp2_with (go_at_call 15; refine (copied_any HX.out hM (by omega)).mono ?_; rintro e w1 ⟨v, rfl, hb, he⟩; obtain ⟨vp, vc, rfl, _⟩ := he)
  rw [rounds_succ]
  have HB := Lib.hid hb
  clear hb
  go_wp2_with fail
  go_ret
  exact ⟨⟨_, rfl⟩, HB.out.trans (((((Below.refl w.heap.size _).alloc HB.out.size _).alloc (by simp; have := HB.out.size; omega) _)).drew)⟩
#print axioms copies_one
end Go.Proofs.YtbnjggklinickaaGreatDoorR

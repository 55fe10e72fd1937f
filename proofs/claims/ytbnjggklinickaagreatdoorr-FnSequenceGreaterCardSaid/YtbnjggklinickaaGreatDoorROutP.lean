import Derived.Test.YtbnjggklinickaaGreatDoorRNew
import Derived.Deep.RegionHeld3
namespace Go.Proofs.YtbnjggklinickaaGreatDoorR
open Go Go.RowKit

abbrev z8 : Value := .int .u8 0
/-- The output that no transaction has. -/
abbrev prev0 : Array Value := #[z8, z8, z8, z8, z8, z8, z8, z8, z8, z8, z8, z8, z8, z8, z8, z8, z8, z8, z8, z8, z8, z8, z8, z8, z8, z8, z8, z8, z8, z8, z8, z8, .int .u32 0]

/-- A whole struct into the block that was made last, its number given. -/
theorem wpList_store_at {P : Program} {ops : Array Oper} {rest : List Oper} {op : Oper} {a : Act} {w : World} {Q : Exit → Act → World → Prop} (hgd : op.guard = none) (ty : TypeId) (x y : Operand) (ho : op.op = .store ty x y) (b : Nat) (hb : w.heap.size = b)
    (c c' : Array Value) (hx : a.eval x = .pointer (some ⟨b, 0, none⟩)) (hy : a.eval y = .agg c') (hs : c.size = c'.size) (hi : (P.info? ty).map (·.size) = some c'.size) (h1 : c'.all (·.oneCell') = true)
    (h : wpList P ops Q rest (a.put op.dst undef) (w.alloc (.cells c' ty))) : wpList P ops Q (op :: rest) a (w.alloc (.cells c ty)) := by
  subst hb
  exact wpList_store_new hgd ty x y ho c c' hx hy hs hi h1 h

theorem rangeAt_head {w : World} {b : Nat} {t : TypeId} {fr : Nat × Nat} {cs ds : List Value} (hb : w.heap[b]? = some (.cells (cs ++ ds).toArray t fr)) : w.rangeAt b 0 cs := fun j v hv => by
  rw [Nat.zero_add, cell_of_row w b j _ t fr hb]
  have := (List.getElem?_eq_some_iff.1 hv).1
  simp only [List.getElem?_toArray, List.getElem?_append, this, if_true]
  exact hv

abbrev hash0 : List Value := [z8, z8, z8, z8, z8, z8, z8, z8, z8, z8, z8, z8, z8, z8, z8, z8, z8, z8, z8, z8, z8, z8, z8, z8, z8, z8, z8, z8, z8, z8, z8, z8]

set_option maxHeartbeats 2000000 in
set_option maxRecDepth 100000 in
theorem outPoint_any (w : World) : Calls Tryz.prog 29 #[.agg prev0] w fun e w' => e = .returned (.agg prev0) ∧ Below w.heap.size w w' := by
  go_enter Tryz.func29, Tryz.ntmps29
  go_upto_region 1 with (fail)
  obtain ⟨w1, hw1⟩ : ∃ w1, w1 = w.alloc (.cells prev0 37) := ⟨_, rfl⟩
  obtain ⟨w2, hw2⟩ : ∃ w2, w2 = w1.alloc (.cells prev0 96) := ⟨_, rfl⟩
  have hs1 : w1.heap.size = w.heap.size + 1 := by rw [hw1]; simp
  have hb1 : w1.heap[w.heap.size]? = some (.cells prev0 37 (0, 0)) := by rw [hw1]; exact block_new _ _
  have hb2 : w2.heap[w.heap.size]? = some (.cells prev0 37 (0, 0)) := by rw [hw2]; exact block_alloc hb1 _
  have hr : w2.rangeAt w.heap.size 0 hash0 := rangeAt_head (ds := [.int .u32 0]) hb2
  have hi32 : w2.cell? ⟨w.heap.size, 32, none⟩ = some (.int .u32 0) := by rw [cell_at hb2]; rfl
  have hwB : Below w.heap.size w w1 := by rw [hw1]; exact (Below.refl _ _).alloc (Nat.le_refl _) _
  rw [← hw1]
  change Code.wp _ _ _ _ (w1.alloc (.cells prev0 96))
  rw [← hw2]
  have HW2 := Lib.hid hw2
  have HS1 := Lib.hid hs1
  clear hw1 hw2 hb1 hb2 hs1
  have HR := Lib.hid hr
  clear hr
  iterate 4 (first | go_values | go_skip | go_guarded | go_step | go_upon)
  refine wpList_load_mid rfl 35 _ rfl w.heap.size 0 rfl hash0 _ HR.out Tryz.underlying35 rfl (by kernel_rfl) ?_
  iterate 9 (first | go_values | go_skip | go_guarded | go_step | go_upon)
  rw [HW2.out]
  refine wpList_store_at rfl 96 _ _ rfl (w.heap.size + 1) HS1.out prev0 prev0 rfl rfl rfl (by kernel_rfl) (by simp [Value.oneCell']) ?_
  go_wp2_with fail
  exact bodyPost_ret (v := .agg prev0) (results_cell_row Tryz.results29 _ _ (w.heap.size + 1) _ prev0 (0, 0) _ rfl (block_new_at _ _ _ HS1.out) Tryz.underlying96 rfl (by kernel_rfl)) rfl ⟨rfl, hwB.alloc (by rw [HS1.out]; omega) _⟩
#print axioms outPoint_any
end Go.Proofs.YtbnjggklinickaaGreatDoorR

import Derived.Test.YtbnjggklinickaaGreatDoorRNext
import Derived.Deep.QuietTactic
import Derived.BigQuiet
namespace Go.Proofs.YtbnjggklinickaaGreatDoorR
open Go Go.RowKit

set_option maxHeartbeats 2000000 in
set_option maxRecDepth 100000 in
theorem next_data {b o : Nat} {T : TypeId} {c : Array Value} {w : World} {sb so L K off : Nat} {pos v : Int} (h : TokIn b o T c w sb so L K off pos) (n : Nat) (h1 : 1 ≤ n) (h75 : n ≤ 75) (hlt : off + n + 1 ≤ L) (hv : w.cell? ⟨sb, so + off, none⟩ = some (.int .u8 v))
    (hop : ∀ w, Calls Tryz.prog 53 #[.int .u8 v] w (OpMade v ((n + 1 : Nat) : Int) w)) :
    Calls Tryz.prog 32 #[.pointer (some ⟨b, o, none⟩)] w fun e w' => e = .returned (.bool true) ∧ TokPost b o T c v ((n + 1 : Nat) : Int) (off + (n + 1)) (pos + 1) (.slice (some ⟨sb, so + off + 1, none⟩) n (K - off - 1)) w w' := by
  obtain ⟨hb, t0, t2, t3, ⟨v4, t4⟩, ⟨v5, t5⟩, t6, hne, hL, ⟨hp1, hp2⟩, hK1, hK2⟩ := h
  have c0 : w.cell? ⟨b, o, none⟩ = some (.slice (some ⟨sb, so, none⟩) L K) := by rw [cell_at hb, t0]
  have c2 : w.cell? ⟨b, o + 2, none⟩ = some (.int .i32 off) := by rw [cell_at hb, t2]
  have c3 : w.cell? ⟨b, o + 3, none⟩ = some (.int .i32 pos) := by rw [cell_at hb, t3]
  have c4 : w.cell? ⟨b, o + 4, none⟩ = some v4 := by rw [cell_at hb, t4]
  have c5 : w.cell? ⟨b, o + 5, none⟩ = some v5 := by rw [cell_at hb, t5]
  have c6 : w.cell? ⟨b, o + 6, none⟩ = some .nilIface := by rw [cell_at hb, t6]
  have hf : ∀ i, w.frozen? ⟨b, i, none⟩ = false := fun i => free_at hb i
  have hbl : b < w.heap.size := lt_of_block hb
  have hne' : ¬ b = sb := fun e => hne e.symm
  have hsl : sb < w.heap.size := World.block_lt_of_cell? _ _ hv
  have HOP := Lib.hid hop
  have HB := Lib.hid hb
  have hdone : decide ((L : Int) ≤ (off : Int)) = false := by simp; omega
  have hoL : off < L := by omega
  have hm1 : (((n + 1 : Nat) : Int) == 1) = false := by simp; omega
  have hm2 : decide (((n + 1 : Nat) : Int) > 1) = true := by simp; omega
  clear hop hb t0 t2 t3 t4 t5 t6
  go_enter Tryz.func32, Tryz.ntmps32
  go_wp2_with (go_at_call 37; refine (done_any c0 (by omega) c2 c6).mono ?_; rintro e w' ⟨rfl, d, rfl⟩)
  refine wp_region_still_tail 10 (by kernel_rfl) (by kernel_rfl) ?_
  simp only [List.take_succ_cons, List.take_zero, List.drop_succ_cons, List.drop_zero]
  change wpStill _ _ (World.drew _) _ _ _
  repeat still_step
  refine wpStill_nil ?_
  change wpList _ _ _ _ _ (World.drew _)
  go_wp2_with (go_at_call 53; refine (HOP.out _).mono ?_; rintro e w' ⟨s, rfl, rfl⟩)
  go_quiet (fail)
  go_wp2_with fail
  have hw1 : IntKind.i32.wrap ((n : Int) + 1) = (n : Int) + 1 := by rw [IntKind.wrap_i32]; omega
  have hw2 : IntKind.i32.wrap ((off : Int) + ((n : Int) + 1)) = (off : Int) + ((n : Int) + 1) := by rw [IntKind.wrap_i32]; omega
  refine wp_region_still_tail 12 (by kernel_rfl) (by kernel_rfl) ?_
  simp only [List.take_succ_cons, List.take_zero, List.drop_succ_cons, List.drop_zero]
  change wpStill _ _ (World.drew _) _ _ _
  repeat still_step
  refine wpStill_nil ?_
  change wpList _ _ _ _ _ (World.drew _)
  clear hw1 hw2
  go_wp2_with fail
  go_ret
  refine ⟨rfl, w.heap.size, s, Nat.le_refl _, ?_, ?_, ?_⟩
  · refine block_setCell_other (block_setCell_other (block_setCell_other (block_drewN (block_new_at _ _ _ ?_) _) _ _ ?_) _ _ ?_) _ _ ?_
    · simp only [World.size_setCell]; rfl
    all_goals exact Nat.ne_of_lt hbl
  · exact block_setCell (block_setCell (block_setCell (block_drewN (block_alloc (block_setCell (block_drewN HB.out d) _ _) _) _) _ _) _ _) _ _
  · refine Kept.setCell (Kept.setCell (Kept.setCell (Kept.drewN (Kept.alloc (Kept.setCell ((Kept.refl _ w).drewN d) ?_ _) ?_ _) _) ?_ _) ?_ _) ?_ _
    · exact fun h => h.2 rfl
    · intro k hk; simp only [World.size_setCell]; exact hk.1
    all_goals exact fun h => h.2 rfl
#print axioms next_data
end Go.Proofs.YtbnjggklinickaaGreatDoorR

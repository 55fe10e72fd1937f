import Derived.Test.YtbnjggklinickaaGreatDoorROpBase
import Derived.StillTailTactics
namespace Go.Proofs.YtbnjggklinickaaGreatDoorR
open Go Go.RowKit

/-- A tokenizer's cells. -/
structure TokIn (b o : Nat) (T : TypeId) (c : Array Value) (w : World) (sb so L K : Nat) (off : Nat) (pos : Int) : Prop where
  blk : w.heap[b]? = some (.cells c T (0, 0))
  t0 : c[o]? = some (.slice (some ⟨sb, so, none⟩) L K)
  t2 : c[o + 2]? = some (.int .i32 off)
  t3 : c[o + 3]? = some (.int .i32 pos)
  t4 : ∃ v, c[o + 4]? = some v
  t5 : ∃ v, c[o + 5]? = some v
  t6 : c[o + 6]? = some .nilIface
  ne : sb ≠ b
  hL : L ≤ 100000
  hpos : -1 ≤ pos ∧ pos ≤ 100000
  hK : L ≤ K ∧ K ≤ maxLen

/-- What a step of the tokenizer leaves. -/
def TokPost (b o : Nat) (T : TypeId) (c : Array Value) (v len : Int) (off' : Nat) (pos' : Int) (dat : Value) (w w' : World) : Prop :=
  ∃ (p : Nat) (s : ByteArray), w.heap.size ≤ p ∧ w'.heap[p]? = some (.cells #[.int .u8 v, .string s, .int .i64 len] 138 (0, 0)) ∧
    w'.heap[b]? = some (.cells ((((c.setIfInBounds (o + 3) (.int .i32 pos')).setIfInBounds (o + 2) (.int .i32 off')).setIfInBounds (o + 4) (.pointer (some ⟨p, 0, none⟩))).setIfInBounds (o + 5) dat) T (0, 0)) ∧
    Kept (fun k => k < w.heap.size ∧ k ≠ b) w w'

set_option maxHeartbeats 2000000 in
set_option maxRecDepth 100000 in
theorem next_one {b o : Nat} {T : TypeId} {c : Array Value} {w : World} {sb so L K off : Nat} {pos v : Int} (h : TokIn b o T c w sb so L K off pos) (hlt : off < L) (hv : w.cell? ⟨sb, so + off, none⟩ = some (.int .u8 v))
    (hop : ∀ w, Calls Tryz.prog 53 #[.int .u8 v] w (OpMade v 1 w)) :
    Calls Tryz.prog 32 #[.pointer (some ⟨b, o, none⟩)] w fun e w' => e = .returned (.bool true) ∧ TokPost b o T c v 1 (off + 1) (pos + 1) (.slice none 0 0) w w' := by
  obtain ⟨hb, t0, t2, t3, ⟨v4, t4⟩, ⟨v5, t5⟩, t6, hne, hL, ⟨hp1, hp2⟩, hK1, hK2⟩ := h
  have c0 : w.cell? ⟨b, o, none⟩ = some (.slice (some ⟨sb, so, none⟩) L K) := by rw [cell_at hb, t0]
  have c2 : w.cell? ⟨b, o + 2, none⟩ = some (.int .i32 off) := by rw [cell_at hb, t2]
  have c3 : w.cell? ⟨b, o + 3, none⟩ = some (.int .i32 pos) := by rw [cell_at hb, t3]
  have c4 : w.cell? ⟨b, o + 4, none⟩ = some v4 := by rw [cell_at hb, t4]
  have c5 : w.cell? ⟨b, o + 5, none⟩ = some v5 := by rw [cell_at hb, t5]
  have c6 : w.cell? ⟨b, o + 6, none⟩ = some .nilIface := by rw [cell_at hb, t6]
  have hf : ∀ i, w.frozen? ⟨b, i, none⟩ = false := fun i => free_at hb i
  have hbl : b < w.heap.size := lt_of_block hb
  have hne' : ¬ b = sb := fun e => hne e.symm
  have hsl : sb < w.heap.size := World.block_lt_of_cell? _ _ hv
  have HOP := Lib.hid hop
  have HB := Lib.hid hb
  have hdone : decide ((L : Int) ≤ (off : Int)) = false := by simp; omega
  clear hop hb t0 t2 t3 t4 t5 t6
  go_enter Tryz.func32, Tryz.ntmps32
  go_wp2_with (go_at_call 37; refine (done_any c0 (by omega) c2 c6).mono ?_; rintro e w' ⟨rfl, d, rfl⟩)
  refine wp_region_still_tail 10 (by kernel_rfl) (by kernel_rfl) ?_
  simp only [List.take_succ_cons, List.take_zero, List.drop_succ_cons, List.drop_zero]
  change wpStill _ _ (World.drew _) _ _ _
  repeat still_step
  refine wpStill_nil ?_
  change wpList _ _ _ _ _ (World.drew _)
  go_wp2_with (go_at_call 53; refine (HOP.out _).mono ?_; rintro e w' ⟨s, rfl, rfl⟩)
  go_ret
  refine ⟨rfl, w.heap.size, s, Nat.le_refl _, ?_, block_drew (block_alloc (block_setCell (block_setCell (block_setCell (block_setCell (block_drewN HB.out d) _ _) _ _) _ _) _ _) _), ?_⟩
  · exact block_drew (block_new_at _ _ _ (by simp only [World.size_setCell]; rfl))
  · refine Kept.drew (Kept.alloc (Kept.setCell (Kept.setCell (Kept.setCell (Kept.setCell ((Kept.refl _ w).drewN d) ?_ _) ?_ _) ?_ _) ?_ _) ?_ _)
    · exact fun h => h.2 rfl
    · exact fun h => h.2 rfl
    · exact fun h => h.2 rfl
    · exact fun h => h.2 rfl
    · intro k hk; simp only [World.size_setCell]; exact hk.1
#print axioms next_one
end Go.Proofs.YtbnjggklinickaaGreatDoorR

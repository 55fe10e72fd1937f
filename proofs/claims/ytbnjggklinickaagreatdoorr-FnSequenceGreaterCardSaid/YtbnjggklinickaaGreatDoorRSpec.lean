import Derived.Test.YtbnjggklinickaaGreatDoorRRunLaw
namespace Go.Proofs.YtbnjggklinickaaGreatDoorR
open Go Go.RowKit

/-- A row of bytes that the call has made itself, from block B on. -/
def Own (B : Nat) (w : World) (v : Value) (bs : List Int) : Prop := w.ownsRow B 5 1 v bs.length (bs.map (Value.int .u8))

theorem Own.nil (B : Nat) (w : World) : Own B w (.slice none 0 0) [] := World.ownsRow_nil _ _ _ _

/-- append of one byte to bytes of the call's own. -/
theorem wpList_byte {P : Program} {w : World} {ops : Array Oper} {rest : List Oper} {o : Oper} {a : Act} {Q : Exit → Act → World → Prop} (hgd : o.guard = none) (s x : Operand) (t : TypeId)
    (ho : o.op = .call { callee := .builtin .append, args := #[s, x], argTypes := #[t, t] })
    (B : Nat) (i : TypeInfo) (ht : P.underlying t = some (.slice 5)) (hi : P.info? 5 = some i) (hz : i.zero = some (.int .u8 0)) (hsize : i.size = 1) (hby : i.bytes = 1)
    (v : Value) (xs : List Int) (m : Int) (hs : a.eval s = v) (hown : Own B w v xs) (hm : 0 ≤ m ∧ m ≤ 255) (hx : a.eval x = .slice (some ⟨w.heap.size, 0, none⟩) 1 1) (hl : xs.length ≤ 100000) (hbase : B ≤ w.heap.size) (k : Nat) (hk : k = xs.length + 1)
    (h : ∀ g cap w', Own B w' (.slice (some ⟨g, 0, none⟩) k cap) (xs ++ [m]) → Below B w w' → w'.cell? ⟨g, xs.length, none⟩ = some (.int .u8 m) → wpList P ops Q rest (a.put o.dst (.slice (some ⟨g, 0, none⟩) k cap)) w') : wpList P ops Q (o :: rest) a (w.alloc (.cells #[.int .u8 m] 5)) := by
  subst hk
  refine wpList_append_bytes hgd s x t ho B 5 i ht hi hz hsize hby v xs hs (World.ownsRow.alloc hown _) _ [m] hx (M := fun k => k = w.heap.size) ⟨_, 1, rfl, by simp, by simp [maxLen], by simp, by simpa using hm, fun _ => ⟨w.heap.size, 0, rfl, rfl, fun j hj => ?_⟩⟩ (by simp; omega) (by simp; omega) ?_
  · have : j = 0 := by simp at hj; omega
    subst this
    rw [cell_at (block_new _ _)]; rfl
  · intro v' w' ho' hg
    rcases ho'.2 with ⟨_, h0⟩ | ⟨g, cap, cur, rfl, hB, hg', h1, h2, h3, h4⟩
    · simp at h0
    · have hlen : (xs ++ [m]).length = xs.length + 1 := by simp
      rw [hlen] at ho' ⊢
      refine h g cap w' (by unfold Own; rw [hlen]; exact ho') ?_ ?_
      · exact ((Below.refl _ _).alloc hbase _).trans ⟨hg.os, hg.tape, hg.output, hg.size, fun k hk => hg.block k (by simp; omega) (fun e => by have := (World.ownsRow.lt hown k e.symm).1; omega)⟩
      · have := World.ownsRow.cellAt ho' xs.length (by omega)
        rw [this]; simp

set_option maxHeartbeats 1000000 in
set_option maxRecDepth 100000 in
theorem number_zero (w : World) : Calls Tryz.prog 5 #[.int .i64 0] w fun e w' => e = .returned (.slice none 0 0) ∧ w = w' := by
  go_enter Tryz.func5, Tryz.ntmps5
  go_wp2
  go_ret
  exact ⟨rfl, rfl⟩
#print axioms number_zero

/-- What NumberBytes answers: bytes of its own. -/
def Bytes (bs : List Int) (w : World) (e : Ending) (w' : World) : Prop := ∃ v, e = .returned v ∧ Below w.heap.size w w' ∧ Own w.heap.size w' v bs

end Go.Proofs.YtbnjggklinickaaGreatDoorR

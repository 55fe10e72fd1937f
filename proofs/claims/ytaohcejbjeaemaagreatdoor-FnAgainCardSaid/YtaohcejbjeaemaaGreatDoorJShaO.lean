import Derived.Test.YtaohcejbjeaemaaGreatDoorJShaMShaN
namespace Go.Proofs.YtaohcejbjeaemaaGreatDoor
open Go Go.RowKit

/-- A block of bytes. -/
def ByteBlk (w : World) (g N : Nat) (t : TypeId) : Prop := ∃ c, w.heap[g]? = some (.cells c t (0, 0)) ∧ c.size = N ∧ ∀ i, i < N → ∃ y : Int, (0 ≤ y ∧ y ≤ 255) ∧ c[i]? = some (.int .u8 y)

theorem ByteBlk.lt {w : World} {g N : Nat} {t : TypeId} (h : ByteBlk w g N t) : g < w.heap.size := lt_of_block h.choose_spec.1
theorem ByteBlk.free {w : World} {g N : Nat} {t : TypeId} (h : ByteBlk w g N t) (i : Nat) : w.frozen? ⟨g, i, none⟩ = false := by
  obtain ⟨c, h1, _⟩ := h
  exact free_at h1 i
theorem ByteBlk.cell {w : World} {g N : Nat} {t : TypeId} (h : ByteBlk w g N t) {i : Nat} (hi : i < N) : ∃ y : Int, (0 ≤ y ∧ y ≤ 255) ∧ w.cell? ⟨g, i, none⟩ = some (.int .u8 y) := by
  obtain ⟨c, h1, _, h3⟩ := h
  obtain ⟨y, hy, hc⟩ := h3 i hi
  exact ⟨y, hy, by rw [cell_at h1]; exact hc⟩
theorem ByteBlk.kept {w w' : World} {g N : Nat} {t : TypeId} (h : ByteBlk w g N t) (hb : w'.heap[g]? = w.heap[g]?) : ByteBlk w' g N t := by
  obtain ⟨c, h1, h2⟩ := h
  exact ⟨c, hb.trans h1, h2⟩
theorem ByteBlk.set {w : World} {g N : Nat} {t : TypeId} (h : ByteBlk w g N t) (i : Nat) {y : Int} (hy : 0 ≤ y ∧ y ≤ 255) : ByteBlk (w.setCell ⟨g, i, none⟩ (.int .u8 y)) g N t := by
  obtain ⟨c, h1, h2, h3⟩ := h
  refine ⟨_, block_setCell h1 i _, by simp [h2], fun j hj => ?_⟩
  rw [Array.getElem?_setIfInBounds]
  split
  · rename_i e; subst e; exact ⟨y, hy, by rw [if_pos (by omega)]⟩
  · exact h3 j hj
theorem ByteBlk.put {g N : Nat} {t : TypeId} : ∀ (ys : List Int) (w : World) (o : Nat), ByteBlk w g N t → (∀ y ∈ ys, 0 ≤ y ∧ y ≤ 255) → ByteBlk (putBytes w g o ys) g N t
  | [], _, _, h, _ => h
  | y :: ys, w, o, h, hy => ByteBlk.put ys _ (o + 1) (h.set o (hy y (by simp))) (fun z hz => hy z (by simp [hz]))
theorem putBytes_kept (g : Nat) : ∀ (ys : List Int) (w : World) (o : Nat), Kept (fun k => k ≠ g) w (putBytes w g o ys)
  | [], _, _ => Kept.refl _ _
  | y :: ys, w, o => ((Kept.refl _ w).setCell (p := ⟨g, o, none⟩) (fun h => h rfl) (.int .u8 y)).trans (putBytes_kept g ys _ (o + 1))
theorem ByteBlk.bytes {w : World} {g N : Nat} {t : TypeId} (h : ByteBlk w g N t) {n : Nat} (hn : n ≤ N) : ∃ bs : List Int, bs.length = n ∧ BytesAt w g 0 bs := by
  obtain ⟨f, hf⟩ : ∃ f : Nat → Int, ∀ i, i < N → (0 ≤ f i ∧ f i ≤ 255) ∧ w.cell? ⟨g, i, none⟩ = some (.int .u8 (f i)) := by
    classical
    refine ⟨fun i => if hi : i < N then Classical.choose (h.cell hi) else 0, fun i hi => ?_⟩
    simp only [dif_pos hi]
    exact Classical.choose_spec (h.cell hi)
  refine ⟨(List.range n).map f, by simp, fun i hi => ?_, fun m hm => ?_⟩
  · have hi' : i < n := by simpa using hi
    rw [Nat.zero_add, (hf i (by omega)).2]
    simp [List.getD, hi']
  · obtain ⟨i, hi, rfl⟩ := List.mem_map.1 hm
    have := List.mem_range.1 hi
    exact (hf i (by omega)).1
theorem ByteBlk.u8 {w : World} {g N : Nat} {t : TypeId} {c : Array Value} (h : ByteBlk w g N t) (hc : w.heap[g]? = some (.cells c t (0, 0))) : c.size = N ∧ ∀ i, i < N → ∃ y : Int, (0 ≤ y ∧ y ≤ 255) ∧ c[i]? = some (.int .u8 y) := by
  obtain ⟨c', h1, h2⟩ := h
  rw [hc] at h1
  cases h1
  exact h2
theorem ByteBlk.zero {w : World} {g N : Nat} {t : TypeId} {c : Array Value} (h : w.heap[g]? = some (.cells c t (0, 0))) (hc : c = (List.replicate N (Value.int .u8 0)).toArray) : ByteBlk w g N t :=
  ⟨c, h, by rw [hc]; simp, fun i hi => ⟨0, by decide, by rw [hc, List.getElem?_toArray, List.getElem?_replicate, if_pos hi]⟩⟩

/-- A whole aggregate into a block that is known whole. -/
theorem wpList_store_row {P : Program} {ops : Array Oper} {rest : List Oper} {op : Oper} {a : Act} {w : World} {Q : Exit → Act → World → Prop} (hgd : op.guard = none) (ty : TypeId) (x y : Operand) (ho : op.op = .store ty x y)
    (g : Nat) (cur c' : Array Value) (t : TypeId) (hx : a.eval x = .pointer (some ⟨g, 0, none⟩)) (hy : a.eval y = .agg c') (hg : w.heap[g]? = some (.cells cur t (0, 0))) (hs : c'.size = cur.size) (hi : (P.info? ty).map (·.size) = some c'.size) (h1 : ∀ v ∈ c'.toList, v.oneCell' = true)
    (h : ∀ w', Hid (w'.heap[g]? = some (.cells c' t (0, 0))) → Hid (Kept (fun k => k ≠ g) w w') → wpList P ops Q rest (a.put op.dst undef) w') : wpList P ops Q (op :: rest) a w :=
  wpList_plain hgd fun _ hK => by
    have hst := run_storeCells_at P g 0 t c'.toList 0 cur w hg (by simp; omega) h1
    have e : (cur.toList.take (0 + 0) ++ c'.toList ++ cur.toList.drop (0 + 0 + c'.toList.length)).toArray = c' := by
      have : cur.toList.drop (0 + 0 + c'.toList.length) = [] := List.drop_eq_nil_of_le (by simp; omega)
      rw [this]
      simp
    rw [e] at hst
    have hsv : (storeVar ty ⟨g, 0, none⟩ (.agg c')).run P w = .ok () (w.setRow g c') := by
      cases hq : P.info? ty with
      | none => simp [hq] at hi
      | some i =>
        have hs : c'.size = i.size := by simp [hq] at hi; omega
        simp [storeVar, sizeOf, typeInfo, hq, Value.cells, hs, hst]
    unfold Oper.wp execOp
    simp only [ho, hx, hy, Instr.storeAt, Instr.sureAddr, Sem.run_bind, Sem.run_pure, Result.andThen_ok, hsv]
    exact hK _ _ (h _ (setRow_heap w g cur _ t _ hg) ⟨rfl, rfl, rfl, by simp [World.setRow], fun k hk => setRow_other w g k _ hk⟩)
theorem put32_blk {w : World} {g N o n k : Nat} {t : TypeId} (hB : ByteBlk w g N t) (hn : 4 ≤ n) (hk : n ≤ maxLen) (ho : o + 4 ≤ N) (x : Int) :
    Calls Tryz.prog 301 #[.slice (some ⟨g, o, none⟩) n k, .int .u32 x] w fun e w' => e = .returned (.tuple #[]) ∧ ByteBlk w' g N t ∧ Kept (fun k => k ≠ g) w w' := by
  have hB' := hB
  obtain ⟨c, h1, h2, h3⟩ := hB'
  refine (put32_over (k := k) h1 hn hk (fun i hi => by obtain ⟨y, _, hy⟩ := h3 (o + i) (by omega); exact ⟨y, hy⟩) x).mono ?_
  rintro e w' ⟨rfl, y0, y1, y2, y3, hy, rfl⟩
  exact ⟨rfl, ByteBlk.put _ _ _ hB hy, putBytes_kept _ _ _ _⟩
theorem u8_cells {c : Array Value} {N : Nat} (h : c.size = N) (h3 : ∀ i, i < N → ∃ y : Int, (0 ≤ y ∧ y ≤ 255) ∧ c[i]? = some (.int .u8 y)) : ∀ v ∈ c.toList, v.oneCell' = true := by
  intro v hv
  obtain ⟨i, hi, rfl⟩ := List.getElem_of_mem hv
  have hi' : i < N := by rw [← h]; simpa using hi
  obtain ⟨y, _, hy⟩ := h3 i hi'
  have hs : i < c.size := by omega
  rw [Array.getElem?_eq_getElem hs] at hy
  have : c.toList[i] = .int .u8 y := by simpa using hy
  rw [this]; rfl
theorem DigW.word {w : World} {b nx : Nat} {L : Int} (h : DigW w b nx L) (i : Nat) (hi : i < 8) : ∃ n, w.cell? ⟨b, i, none⟩ = some (.int .u32 n) := by
  obtain ⟨c, h1, h2, _⟩ := h
  rw [cell_at h1]
  exact h2.h i hi
theorem DigW.c74 {w : World} {b nx : Nat} {L : Int} (h : DigW w b nx L) : w.cell? ⟨b, 74, none⟩ = some (.bool false) := by
  obtain ⟨c, h1, h2, _⟩ := h
  rw [cell_at h1]; exact h2.is
end Go.Proofs.YtaohcejbjeaemaaGreatDoor

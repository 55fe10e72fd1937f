import Derived.Test.YtaohcejbjeaemaaGreatDoorJEngineARuns
import Derived.Test.YtaohcejbjeaemaaGreatDoorJLast
import Derived.Deep.AppendLies
namespace Go.Proofs.YtaohcejbjeaemaaGreatDoor
open Go Go.RowKit

/-- A row of bytes that the call has made itself, from block B on. -/
def Own (B : Nat) (w : World) (v : Value) (bs : List Int) : Prop := w.ownsRow B 5 1 v bs.length (bs.map (Value.int .u8))

theorem Own.form {B : Nat} {w : World} {v : Value} {bs : List Int} (h : Own B w v bs) (h0 : 0 < bs.length) : ∃ g cap, v = .slice (some ⟨g, 0, none⟩) bs.length cap := by
  rcases h.2 with ⟨_, h1⟩ | ⟨g, cap, cur, rfl, _⟩
  · omega
  · exact ⟨g, cap, rfl⟩

/-- append, inside a region that draws its order: bytes that lie anywhere, to a row of the call's own. -/
theorem step_bytes {P : Program} {w : World} {ops : Array Oper} {o : Oper} {a : Act} {K : Act → World → Prop} {Q : Exit → Act → World → Prop} {E : Prop} (hgd : o.guard = none) (s x : Operand) (t : TypeId)
    (ho : o.op = .call { callee := .builtin .append, args := #[s, x], argTypes := #[t, t] }) (B : Nat) (i : TypeInfo) (ht : P.underlying t = some (.slice 5)) (hi : P.info? 5 = some i) (hz : i.zero = some (.int .u8 0)) (hsize : i.size = 1) (hby : i.bytes = 1)
    (v : Value) (xs ys : List Int) (hs : a.eval s = v) (hown : Own B w v xs) (b off c : Nat) (hx : a.eval x = .slice (some ⟨b, off, none⟩) ys.length c) (hc : ∀ j, j < ys.length → w.cell? ⟨b, off + j, none⟩ = some (.int .u8 (ys.getD j 0)))
    (h0 : 0 < ys.length) (hl : xs.length + ys.length ≤ 100000) (hbase : B ≤ w.heap.size)
    (h : ∀ g cap w', Own B w' (.slice (some ⟨g, 0, none⟩) (xs.length + ys.length) cap) (xs ++ ys) → Below B w w' → (∀ k, k < w.heap.size → some k ≠ v.ownBlock → w'.heap[k]? = w.heap[k]?) → K (a.put o.dst (.slice (some ⟨g, 0, none⟩) (xs.length + ys.length) cap)) w') :
    if Region.wanted o (yielded ops a.tmps) = true then Oper.wp P o a w K Q else E := by
  refine step_append_lies w hgd s x t ho B 5 i (.int .u8 0) 1 1 ht hi hz hsize hby rfl (by decide) v xs.length _ hs hown ⟨b, off, none⟩ ys.length c (ys.map (Value.int .u8)) hx (by simp) ?_ (ints_oneCell _ _) h0 (by simp only [maxLen]; omega) (by omega) hbase _ rfl ?_
  · intro j u hj
    have hlt : j < ys.length := by have := (List.getElem?_eq_some_iff.1 hj).1; simpa using this
    rw [Addr.add_lit, hc j hlt]
    rw [List.getElem?_map] at hj
    simp [hlt] at hj
    simp [List.getD, hlt, hj]
  · intro g cap w' ho' hg _ _
    refine h g cap w' ?_ ⟨hg.os, hg.tape, hg.output, hg.size, fun k hk => hg.block k (by omega) (fun e => by have := (World.ownsRow.lt hown k e.symm).1; omega)⟩ hg.block
    unfold Own
    simpa using ho'

/-- append of bytes that lie anywhere, or of none, inside a region that draws its order. -/
theorem step_elem {M : Nat → Prop} {P : Program} {w : World} {ops : Array Oper} {o : Oper} {a : Act} {K : Act → World → Prop} {Q : Exit → Act → World → Prop} {E : Prop} (hgd : o.guard = none) (s x : Operand) (t : TypeId)
    (ho : o.op = .call { callee := .builtin .append, args := #[s, x], argTypes := #[t, t] }) (B : Nat) (i : TypeInfo) (ht : P.underlying t = some (.slice 5)) (hi : P.info? 5 = some i) (hz : i.zero = some (.int .u8 0)) (hsize : i.size = 1) (hby : i.bytes = 1)
    (v : Value) (xs ys : List Int) (hs : a.eval s = v) (hown : Own B w v xs) (hv : ∃ g0 c0, v = .slice (some ⟨g0, 0, none⟩) xs.length c0) (y : Value) (hx : a.eval x = y) (hy : Elem M w y ys) (hn : ys = [] → y = .slice none 0 0)
    (hl : xs.length + ys.length ≤ 100000) (hbase : B ≤ w.heap.size)
    (h : ∀ g cap w', Own B w' (.slice (some ⟨g, 0, none⟩) (xs.length + ys.length) cap) (xs ++ ys) → Below B w w' → (∀ k, k < w.heap.size → some k ≠ v.ownBlock → w'.heap[k]? = w.heap[k]?) → K (a.put o.dst (.slice (some ⟨g, 0, none⟩) (xs.length + ys.length) cap)) w') :
    if Region.wanted o (yielded ops a.tmps) = true then Oper.wp P o a w K Q else E := by
  by_cases h0 : 0 < ys.length
  · obtain ⟨p, c, rfl, _, _, _, _, h5⟩ := hy
    obtain ⟨b, off, rfl, _, hc⟩ := h5 h0
    exact step_bytes hgd s x t ho B i ht hi hz hsize hby v xs ys hs hown b off c hx hc h0 hl hbase h
  · obtain rfl : ys = [] := List.eq_nil_of_length_eq_zero (by omega)
    obtain rfl := hn rfl
    obtain ⟨g0, c0, rfl⟩ := hv
    have hw : Region.wanted o (yielded ops a.tmps) = true := by simp [Region.wanted, hgd]
    rw [if_pos hw]
    have hrun := run_append_owned_none (P := P) (w := w) B t o.type 5 i 1 ht hi _ _ _ hown
    unfold Oper.wp
    simp [execOp, ho, resolve, invoke, builtin, hs, hx, hrun, Result.andThen]
    have := h g0 c0 w (by simpa using hown) (Below.refl _ _) (fun _ _ _ => rfl)
    simp only [List.length_nil, Nat.add_zero] at this
    exact this

theorem cell_81' {wx : World} {b : Nat} (h : wx.heap[b]? = some (.cells #[.int .u8 81] 5 (0, 0))) : ∀ j, j < ([81] : List Int).length → wx.cell? ⟨b, 0 + j, none⟩ = some (.int .u8 (([81] : List Int).getD j 0)) := fun j hj => by
  have : j = 0 := by simp at hj; omega
  subst this
  rw [cell_at h]; rfl
theorem cell_81 (wx : World) : ∀ j, j < ([81] : List Int).length → (wx.alloc (.cells #[.int .u8 81] 5)).cell? ⟨wx.heap.size, 0 + j, none⟩ = some (.int .u8 (([81] : List Int).getD j 0)) := fun j hj => by
  have : j = 0 := by simp at hj; omega
  subst this
  rw [cell_at (block_new _ _)]; rfl

theorem own_made_at (w1 : World) : Own w1.heap.size (World.drew ((w1.alloc (.cells #[.int .u8 81] 5)).alloc (.cells #[] 5))) (.slice (some ⟨w1.heap.size + 1, 0, none⟩) 0 0) [] := by
  have h := World.ownsRow_made (base := w1.heap.size) (e := 5) (size := 1) (w1.alloc (.cells #[.int .u8 81] 5)) #[] 0 (by simp) (by simp [maxLen]) rfl
  have e : (w1.alloc (.cells #[.int .u8 81] 5)).heap.size = w1.heap.size + 1 := by simp
  rw [e] at h
  exact h

/-- Eight cells of a block, stored one behind the other. -/
def chain8 (w : World) (b : Nat) (v0 v1 v2 v3 v4 v5 v6 v7 : Value) : World :=
  (((((((w.setCell ⟨b, 0, none⟩ v0).setCell ⟨b, 1, none⟩ v1).setCell ⟨b, 2, none⟩ v2).setCell ⟨b, 3, none⟩ v3).setCell ⟨b, 4, none⟩ v4).setCell ⟨b, 5, none⟩ v5).setCell ⟨b, 6, none⟩ v6).setCell ⟨b, 7, none⟩ v7
theorem put8 {w : World} {b : Nat} {T : TypeId} {a0 a1 a2 a3 a4 a5 a6 a7 : Value} (h : w.heap[b]? = some (.cells #[a0, a1, a2, a3, a4, a5, a6, a7] T (0, 0))) (v0 v1 v2 v3 v4 v5 v6 v7 : Value) :
    (chain8 w b v0 v1 v2 v3 v4 v5 v6 v7).heap[b]? = some (.cells #[v0, v1, v2, v3, v4, v5, v6, v7] T (0, 0)) ∧ Kept (fun k => k ≠ b) w (chain8 w b v0 v1 v2 v3 v4 v5 v6 v7) := by
  have e := block_setCell (block_setCell (block_setCell (block_setCell (block_setCell (block_setCell (block_setCell (block_setCell h 0 v0) 1 v1) 2 v2) 3 v3) 4 v4) 5 v5) 6 v6) 7 v7
  simp only [List.setIfInBounds_toArray, List.set_cons_zero, List.set_cons_succ] at e
  exact ⟨e, Kept.setCell (Kept.setCell (Kept.setCell (Kept.setCell (Kept.setCell (Kept.setCell (Kept.setCell (Kept.setCell (Kept.refl _ w) (fun h => h rfl) v0) (fun h => h rfl) v1) (fun h => h rfl) v2) (fun h => h rfl) v3) (fun h => h rfl) v4) (fun h => h rfl) v5) (fun h => h rfl) v6) (fun h => h rfl) v7⟩

/-- What alone answers. -/
def AlonePost (bs : List Int) (w : World) (e : Ending) (w' : World) : Prop :=
  ∃ (p : Option Addr) (k' gi go : Nat), e = .returned (.agg #[.slice p (bs ++ [81]).length k', .int .i64 0, .int .i32 2, .slice (some ⟨gi, 0, none⟩) 1 1, .slice (some ⟨go, 0, none⟩) 1 1, .int .u32 100, .int .i64 0, .int .u32 0]) ∧
    Below w.heap.size w w' ∧ Elem (NewIn w w') w' (.slice p (bs ++ [81]).length k') (bs ++ [81]) ∧ NewIn w w' gi ∧ NewIn w w' go ∧ gi ≠ go ∧ (∀ g, p = some g → g.block ≠ gi ∧ g.block ≠ go) ∧
    w'.heap[gi]? = some (.cells (in0 100).toArray 57 (0, 0)) ∧ w'.heap[go]? = some (.cells #[.int .i64 1, .slice none 0 0] 59 (0, 0))

theorem alone_end {w w1 wn w5 : World} {bs : List Int} {g2 cap2 : Nat} (hB01 : Below w.heap.size w w1) (hs1 : w.heap.size + 1 + 1 + 1 < w1.heap.size) (hS : Below w1.heap.size w1 wn) (hO : Own w1.heap.size wn (.slice (some ⟨g2, 0, none⟩) (bs.length + 1) cap2) (bs ++ [81]))
    (hk5 : Kept (fun k => k ≠ w.heap.size) wn w5) (hr : ∀ m ∈ bs, 0 ≤ m ∧ m ≤ 255) (hgi1 : w1.heap[w.heap.size + 1]? = some (.cells (in0 100).toArray 57 (0, 0))) (hgo1 : w1.heap[w.heap.size + 1 + 1]? = some (.cells #[.int .i64 1, .slice none 0 0] 59 (0, 0))) :
    AlonePost bs w (.returned (.agg #[.slice (some ⟨g2, 0, none⟩) (bs.length + 1) cap2, .int .i64 0, .int .i32 2, .slice (some ⟨w.heap.size + 1, 0, none⟩) 1 1, .slice (some ⟨w.heap.size + 1 + 1, 0, none⟩) 1 1, .int .u32 100, .int .i64 0, .int .u32 0])) w5 := by
  have hlen : (bs ++ [81]).length = bs.length + 1 := by simp
  have hr' : ∀ m ∈ bs ++ [81], 0 ≤ m ∧ m ≤ 255 := by
    intro m hm
    rcases List.mem_append.1 hm with h | h
    · exact hr m h
    · simp at h; omega
  have hE := Elem.of_owns hO (by exact hr')
  have hg2 := (World.ownsRow.lt hO g2 rfl).1
  have hs2 := hS.size
  have hs5 := hk5.size
  refine ⟨some ⟨g2, 0, none⟩, cap2, w.heap.size + 1, w.heap.size + 1 + 1, by rw [hlen], ?_, ?_, ⟨by omega, by omega⟩, ⟨by omega, by omega⟩, by omega, ?_, ?_, ?_⟩
  · exact hB01.trans (((kept_of_below (hS.mono (by omega))).trans (hk5.mono (fun k hk => by omega))).below)
  · rw [hlen]
    exact (hE.kept (hk5.mono fun k hk => by omega)).mono fun k hk => ⟨by omega, by omega⟩
  · intro g hg
    obtain rfl := Option.some.inj hg
    exact ⟨by show g2 ≠ _; omega, by show g2 ≠ _; omega⟩
  · exact (hk5.block _ (by omega)).trans ((hS.block _ (by omega)).trans hgi1)
  · exact (hk5.block _ (by omega)).trans ((hS.block _ (by omega)).trans hgo1)

theorem and_plain : bits .and .u32 0 798 = 0 := by decide

set_option linter.unusedSimpArgs false in
set_option maxHeartbeats 4000000 in
set_option maxRecDepth 100000 in
theorem alone_any {w : World} {y : Value} {bs : List Int} (hy0 : bs = [] → y = .slice none 0 0) (hy : Elem (fun k => k < w.heap.size) w y bs) (hl : bs.length ≤ 1000) :
    Calls Tryz.prog 10 #[y, .int .u32 0] w (AlonePost bs w) := by
  obtain ⟨i0, hi, hz0, hz1, hz2⟩ := info_parts info_u8
  have hap := and_plain
  have hr : ∀ m ∈ bs, 0 ≤ m ∧ m ≤ 255 := by
    obtain ⟨p, c, rfl, _, _, _, h4, _⟩ := hy
    exact h4
  have HC := Lib.hid hy
  have HN := Lib.hid hy0
  clear hy hy0
  go_enter Tryz.func10, Tryz.ntmps10
  go_wp2_with fail
  obtain ⟨w1, hw1⟩ : ∃ w1, w1 = (((w.alloc (.cells #[.slice none 0 0, .int .i64 0, .int .i32 0, .slice none 0 0, .slice none 0 0, .int .u32 0, .int .i64 0, .int .u32 0] 41)).alloc (.cells (in0 100).toArray 57)).alloc (.cells #[.int .i64 1, .slice none 0 0] 59)).alloc (.cells #[.int .i32 2, .slice (some ⟨w.heap.size + 1, 0, none⟩) 1 1, .slice (some ⟨w.heap.size + 1 + 1, 0, none⟩) 1 1, .int .u32 100] 39) := ⟨_, rfl⟩
  have hZ1 : w1.heap[w.heap.size]? = some (.cells #[.slice none 0 0, .int .i64 0, .int .i32 0, .slice none 0 0, .slice none 0 0, .int .u32 0, .int .i64 0, .int .u32 0] 41 (0, 0)) := by rw [hw1]; exact block_alloc (block_alloc (block_alloc (block_new _ _) _) _) _
  have hgi1 : w1.heap[w.heap.size + 1]? = some (.cells (in0 100).toArray 57 (0, 0)) := by rw [hw1]; exact block_alloc (block_alloc (block_new_at _ _ _ (by simp)) _) _
  have hgo1 : w1.heap[w.heap.size + 1 + 1]? = some (.cells #[.int .i64 1, .slice none 0 0] 59 (0, 0)) := by rw [hw1]; exact block_alloc (block_new_at _ _ _ (by simp)) _
  have ht1 : w1.heap[w.heap.size + 1 + 1 + 1]? = some (.cells #[.int .i32 2, .slice (some ⟨w.heap.size + 1, 0, none⟩) 1 1, .slice (some ⟨w.heap.size + 1 + 1, 0, none⟩) 1 1, .int .u32 100] 39 (0, 0)) := by rw [hw1]; exact block_new_at _ _ _ (by simp)
  have hs1 : w.heap.size + 1 + 1 + 1 < w1.heap.size := by rw [hw1]; simp
  have hB01 : Below w.heap.size w w1 := by rw [hw1]; exact ((((Below.refl _ _).alloc (Nat.le_refl _) _).alloc (by simp) _).alloc (by simp; omega) _).alloc (by simp; omega) _
  change Code.wp _ _ _ _ ((((w.alloc (.cells #[.slice none 0 0, .int .i64 0, .int .i32 0, .slice none 0 0, .slice none 0 0, .int .u32 0, .int .i64 0, .int .u32 0] 41)).alloc (.cells (in0 100).toArray 57)).alloc (.cells #[.int .i64 1, .slice none 0 0] 59)).alloc (.cells #[.int .i32 2, .slice (some ⟨w.heap.size + 1, 0, none⟩) 1 1, .slice (some ⟨w.heap.size + 1 + 1, 0, none⟩) 1 1, .int .u32 100] 39))
  rw [← hw1]
  clear hw1
  have hS1 : Below w1.heap.size w1 w1.drew := (Below.refl _ _).drew
  refine wp_region_noPanic ?_
  refine wp_region_held_last (S := (fun w' => Below w1.heap.size w1 w')) _ (by rfl) (by kernel_rfl) (by kernel_rfl) ?_
  simp only [List.dropLast_cons_cons, List.dropLast_singleton, List.length_cons, List.length_nil, Nat.zero_add, Nat.reduceAdd]
  refine wpAnyH_take (i := 1) (v := ?vC_1) rfl (by kernel_rfl) (by kernel_rfl) (by kernel_rfl) (fun _ _ _ h => h) (Or.inl ⟨by rfl, ?hyC_1⟩) hS1 ?rC_1
  case hyC_1 => (intro w' hSw; go_simp; with_reducible rfl)
  try simp only [Act.put, List.setIfInBounds_toArray, List.set_cons_zero, List.set_cons_succ]
  refine wpAnyH_take (i := 5) (v := ?vC_5) rfl (by kernel_rfl) (by kernel_rfl) (by kernel_rfl) (fun _ _ _ h => h) (Or.inl ⟨by rfl, ?hyC_5⟩) hS1 ?rC_5
  case hyC_5 => (intro w' hSw; have hc := (show w'.cell? ⟨w.heap.size + 1 + 1 + 1, 0, none⟩ = some (.int .i32 2) ∧ w'.cell? ⟨w.heap.size + 1 + 1 + 1, 1, none⟩ = some (.slice (some ⟨w.heap.size + 1, 0, none⟩) 1 1) ∧ w'.cell? ⟨w.heap.size + 1 + 1 + 1, 2, none⟩ = some (.slice (some ⟨w.heap.size + 1 + 1, 0, none⟩) 1 1) ∧ w'.cell? ⟨w.heap.size + 1 + 1 + 1, 3, none⟩ = some (.int .u32 100) from by have hb := (hSw.block (w.heap.size + 1 + 1 + 1) hs1).trans ht1; exact ⟨by rw [cell_at hb]; rfl, by rw [cell_at hb]; rfl, by rw [cell_at hb]; rfl, by rw [cell_at hb]; rfl⟩); go_simp; with_reducible rfl)
  try simp only [Act.put, List.setIfInBounds_toArray, List.set_cons_zero, List.set_cons_succ]
  refine wpAnyH_take (i := 6) (v := ?vC_6) rfl (by kernel_rfl) (by kernel_rfl) (by kernel_rfl) (fun _ _ _ h => h) (Or.inl ⟨by rfl, ?hyC_6⟩) hS1 ?rC_6
  case hyC_6 => (intro w' hSw; go_simp; with_reducible rfl)
  try simp only [Act.put, List.setIfInBounds_toArray, List.set_cons_zero, List.set_cons_succ]
  refine wpAnyH_take (i := 7) (v := ?vC_7) rfl (by kernel_rfl) (by kernel_rfl) (by kernel_rfl) (fun _ _ _ h => h) (Or.inl ⟨by rfl, ?hyC_7⟩) hS1 ?rC_7
  case hyC_7 => (intro w' hSw; go_simp; with_reducible rfl)
  try simp only [Act.put, List.setIfInBounds_toArray, List.set_cons_zero, List.set_cons_succ]
  have HCk : ∀ wx, Below w1.heap.size w1 wx → Elem (fun k => k < w.heap.size) wx y bs := fun wx hb => HC.out.kept ((kept_of_below hB01).trans ((kept_of_below hb).mono fun k hk => by omega))
  have HCH := Lib.hid HCk
  clear HCk
  refine wpAnyH_ready (rs := [0, 3]) (by kernel_rfl) (by simp) ?_
  refine AllReadyH.cons rfl (fun K1 hK1 => ?_) (AllReadyH.cons rfl (fun K2 hK2 => ?_) AllReadyH.nil)
  · go_simp
    refine hK1.out _ _ (hS1.alloc (Nat.le_refl _) _) (fun hSa => ?_)
    clear hK1 K1
    try simp only [Act.put, List.setIfInBounds_toArray, List.set_cons_zero, List.set_cons_succ]
    refine wpAnyH_ready (rs := [2, 3]) (by kernel_rfl) (by simp) ?_
    refine AllReadyH.cons rfl (fun K3 hK3 => ?_) (AllReadyH.cons rfl (fun K4 hK4 => ?_) AllReadyH.nil)
    · refine step_elem rfl (.tmp 11) (.tmp 12) 25 rfl w1.heap.size i0 Tryz.underlying25 hi hz0 hz1 hz2 (.slice (some ⟨w1.heap.size, 0, none⟩) 0 0) [] bs rfl (show Own w1.heap.size (World.drew (w1.alloc (.cells #[] 5))) (.slice (some ⟨w1.heap.size, 0, none⟩) 0 0) [] from World.ownsRow_made _ _ _ (Nat.le_refl _) (by simp [maxLen]) rfl) ⟨_, _, rfl⟩ y rfl (HCH.out _ hSa) HN.out (by simp; omega) hSa.size ?_
      intro g1 cap1 wba hO1a hB1a hG1a
      simp only [List.nil_append, List.length_nil, Nat.zero_add] at hO1a ⊢
      refine hK3.out _ _ (hSa.trans hB1a) (fun hSba => ?_)
      clear hK3 K3
      try simp only [Act.put, List.setIfInBounds_toArray, List.set_cons_zero, List.set_cons_succ]
      refine wpAnyH_ready (rs := [3]) (by kernel_rfl) (by simp) ?_
      refine AllReadyH.cons rfl (fun K5 hK5 => ?_) AllReadyH.nil
      go_simp
      refine hK5.out _ _ (hSba.alloc hSba.size _) (fun hSda => ?_)
      clear hK5 K5
      try simp only [Act.put, List.setIfInBounds_toArray, List.set_cons_zero, List.set_cons_succ]
      refine wpAnyH_ready (rs := [4]) (by kernel_rfl) (by simp) ?_
      refine AllReadyH.cons rfl (fun K6 hK6 => ?_) AllReadyH.nil
      refine step_bytes rfl (.tmp 13) (.tmp 14) 25 rfl w1.heap.size i0 Tryz.underlying25 hi hz0 hz1 hz2 (.slice (some ⟨g1, 0, none⟩) bs.length cap1) bs [81] rfl (show Own w1.heap.size (wba.alloc (.cells #[.int .u8 81] 5)) (.slice (some ⟨g1, 0, none⟩) bs.length cap1) bs from World.ownsRow.alloc hO1a _) wba.heap.size 0 1 rfl (cell_81 _) (by decide) (by simp; omega) hSda.size ?_
      intro g2 cap2 wca hO2a hB2a hG2a
      refine hK6.out _ _ (hSda.trans hB2a) (fun hSca => ?_)
      clear hK6 K6
      try simp only [Act.put, List.setIfInBounds_toArray, List.set_cons_zero, List.set_cons_succ]
      refine wpAnyH_take (i := 8) (v := ?vCa_8) rfl (by kernel_rfl) (by kernel_rfl) (by kernel_rfl) (fun _ _ _ h => h) (Or.inl ⟨by rfl, ?hyCa_8⟩) hSca ?rCa_8
      case hyCa_8 => (intro w' hSw; go_simp; with_reducible rfl)
      try simp only [Act.put, List.setIfInBounds_toArray, List.set_cons_zero, List.set_cons_succ]
      refine wpAnyH_done (by kernel_rfl) ?_ _
      show Oper.wp _ _ _ _ _ _
      have hzb := (hSca.block w.heap.size (by omega)).trans hZ1
      have zf : ∀ i, wca.frozen? ⟨w.heap.size, i, none⟩ = false := fun i => free_at hzb i
      have z0 : wca.cell? ⟨w.heap.size, 0, none⟩ = some (.slice none 0 0) := by rw [cell_at hzb]; rfl
      have z1 : wca.cell? ⟨w.heap.size, 1, none⟩ = some (.int .i64 0) := by rw [cell_at hzb]; rfl
      have z2 : wca.cell? ⟨w.heap.size, 2, none⟩ = some (.int .i32 0) := by rw [cell_at hzb]; rfl
      have z3 : wca.cell? ⟨w.heap.size, 3, none⟩ = some (.slice none 0 0) := by rw [cell_at hzb]; rfl
      have z4 : wca.cell? ⟨w.heap.size, 4, none⟩ = some (.slice none 0 0) := by rw [cell_at hzb]; rfl
      have z5 : wca.cell? ⟨w.heap.size, 5, none⟩ = some (.int .u32 0) := by rw [cell_at hzb]; rfl
      have z6 : wca.cell? ⟨w.heap.size, 6, none⟩ = some (.int .i64 0) := by rw [cell_at hzb]; rfl
      have z7 : wca.cell? ⟨w.heap.size, 7, none⟩ = some (.int .u32 0) := by rw [cell_at hzb]; rfl
      go_simp
      refine NoPanic.normal ?_
      obtain ⟨hz5, hk5⟩ := put8 hzb (.slice (some ⟨g2, 0, none⟩) (bs.length + 1) cap2) (.int .i64 0) (.int .i32 2) (.slice (some ⟨w.heap.size + 1, 0, none⟩) 1 1) (.slice (some ⟨w.heap.size + 1 + 1, 0, none⟩) 1 1) (.int .u32 100) (.int .i64 0) (.int .u32 0)
      have hF := alone_end hB01 hs1 hSca hO2a hk5 hr hgi1 hgo1
      simp only [chain8] at hz5 hF
      generalize World.setCell _ ⟨w.heap.size, 7, none⟩ _ = w5 at hz5 hF ⊢
      have HF := Lib.hid (And.intro hz5 hF)
      clear hF hz5 hk5 z0 z1 z2 z3 z4 z5 z6 z7 zf hzb
      go_wp2_with fail
      exact bodyPost_ret (v := .agg #[.slice (some ⟨g2, 0, none⟩) (bs.length + 1) cap2, .int .i64 0, .int .i32 2, .slice (some ⟨w.heap.size + 1, 0, none⟩) 1 1, .slice (some ⟨w.heap.size + 1 + 1, 0, none⟩) 1 1, .int .u32 100, .int .i64 0, .int .u32 0]) (results_cell_row Tryz.results10 _ _ w.heap.size _ #[.slice (some ⟨g2, 0, none⟩) (bs.length + 1) cap2, .int .i64 0, .int .i32 2, .slice (some ⟨w.heap.size + 1, 0, none⟩) 1 1, .slice (some ⟨w.heap.size + 1 + 1, 0, none⟩) 1 1, .int .u32 100, .int .i64 0, .int .u32 0] (0, 0) _ rfl HF.out.1 Tryz.underlying41 rfl (by kernel_rfl)) rfl HF.out.2
    · go_simp
      refine hK4.out _ _ (hSa.alloc hSa.size _) (fun hSdb => ?_)
      clear hK4 K4
      try simp only [Act.put, List.setIfInBounds_toArray, List.set_cons_zero, List.set_cons_succ]
      refine wpAnyH_ready (rs := [2]) (by kernel_rfl) (by simp) ?_
      refine AllReadyH.cons rfl (fun K5 hK5 => ?_) AllReadyH.nil
      refine step_elem rfl (.tmp 11) (.tmp 12) 25 rfl w1.heap.size i0 Tryz.underlying25 hi hz0 hz1 hz2 (.slice (some ⟨w1.heap.size, 0, none⟩) 0 0) [] bs rfl (show Own w1.heap.size (World.drew ((w1.alloc (.cells #[] 5)).alloc (.cells #[.int .u8 81] 5))) (.slice (some ⟨w1.heap.size, 0, none⟩) 0 0) [] from World.ownsRow.alloc (World.ownsRow_made _ _ _ (Nat.le_refl _) (by simp [maxLen]) rfl) _) ⟨_, _, rfl⟩ y rfl (HCH.out _ hSdb) HN.out (by simp; omega) hSdb.size ?_
      intro g1 cap1 wbb hO1b hB1b hG1b
      simp only [List.nil_append, List.length_nil, Nat.zero_add] at hO1b ⊢
      refine hK5.out _ _ (hSdb.trans hB1b) (fun hSbb => ?_)
      clear hK5 K5
      try simp only [Act.put, List.setIfInBounds_toArray, List.set_cons_zero, List.set_cons_succ]
      have h81 : wbb.heap[w1.heap.size + 1]? = some (.cells #[.int .u8 81] 5 (0, 0)) := (hG1b _ (by simp) (by simp [Value.ownBlock])).trans (block_drew (block_new_at _ _ _ (by simp)))
      refine wpAnyH_ready (rs := [4]) (by kernel_rfl) (by simp) ?_
      refine AllReadyH.cons rfl (fun K6 hK6 => ?_) AllReadyH.nil
      refine step_bytes rfl (.tmp 13) (.tmp 14) 25 rfl w1.heap.size i0 Tryz.underlying25 hi hz0 hz1 hz2 (.slice (some ⟨g1, 0, none⟩) bs.length cap1) bs [81] rfl hO1b (w1.heap.size + 1) 0 1 rfl (cell_81' h81) (by decide) (by simp; omega) hSbb.size ?_
      intro g2 cap2 wcb hO2b hB2b hG2b
      refine hK6.out _ _ (hSbb.trans hB2b) (fun hScb => ?_)
      clear hK6 K6
      try simp only [Act.put, List.setIfInBounds_toArray, List.set_cons_zero, List.set_cons_succ]
      refine wpAnyH_take (i := 8) (v := ?vCb_8) rfl (by kernel_rfl) (by kernel_rfl) (by kernel_rfl) (fun _ _ _ h => h) (Or.inl ⟨by rfl, ?hyCb_8⟩) hScb ?rCb_8
      case hyCb_8 => (intro w' hSw; go_simp; with_reducible rfl)
      try simp only [Act.put, List.setIfInBounds_toArray, List.set_cons_zero, List.set_cons_succ]
      refine wpAnyH_done (by kernel_rfl) ?_ _
      show Oper.wp _ _ _ _ _ _
      have hzb := (hScb.block w.heap.size (by omega)).trans hZ1
      have zf : ∀ i, wcb.frozen? ⟨w.heap.size, i, none⟩ = false := fun i => free_at hzb i
      have z0 : wcb.cell? ⟨w.heap.size, 0, none⟩ = some (.slice none 0 0) := by rw [cell_at hzb]; rfl
      have z1 : wcb.cell? ⟨w.heap.size, 1, none⟩ = some (.int .i64 0) := by rw [cell_at hzb]; rfl
      have z2 : wcb.cell? ⟨w.heap.size, 2, none⟩ = some (.int .i32 0) := by rw [cell_at hzb]; rfl
      have z3 : wcb.cell? ⟨w.heap.size, 3, none⟩ = some (.slice none 0 0) := by rw [cell_at hzb]; rfl
      have z4 : wcb.cell? ⟨w.heap.size, 4, none⟩ = some (.slice none 0 0) := by rw [cell_at hzb]; rfl
      have z5 : wcb.cell? ⟨w.heap.size, 5, none⟩ = some (.int .u32 0) := by rw [cell_at hzb]; rfl
      have z6 : wcb.cell? ⟨w.heap.size, 6, none⟩ = some (.int .i64 0) := by rw [cell_at hzb]; rfl
      have z7 : wcb.cell? ⟨w.heap.size, 7, none⟩ = some (.int .u32 0) := by rw [cell_at hzb]; rfl
      go_simp
      refine NoPanic.normal ?_
      obtain ⟨hz5, hk5⟩ := put8 hzb (.slice (some ⟨g2, 0, none⟩) (bs.length + 1) cap2) (.int .i64 0) (.int .i32 2) (.slice (some ⟨w.heap.size + 1, 0, none⟩) 1 1) (.slice (some ⟨w.heap.size + 1 + 1, 0, none⟩) 1 1) (.int .u32 100) (.int .i64 0) (.int .u32 0)
      have hF := alone_end hB01 hs1 hScb hO2b hk5 hr hgi1 hgo1
      simp only [chain8] at hz5 hF
      generalize World.setCell _ ⟨w.heap.size, 7, none⟩ _ = w5 at hz5 hF ⊢
      have HF := Lib.hid (And.intro hz5 hF)
      clear hF hz5 hk5 z0 z1 z2 z3 z4 z5 z6 z7 zf hzb
      go_wp2_with fail
      exact bodyPost_ret (v := .agg #[.slice (some ⟨g2, 0, none⟩) (bs.length + 1) cap2, .int .i64 0, .int .i32 2, .slice (some ⟨w.heap.size + 1, 0, none⟩) 1 1, .slice (some ⟨w.heap.size + 1 + 1, 0, none⟩) 1 1, .int .u32 100, .int .i64 0, .int .u32 0]) (results_cell_row Tryz.results10 _ _ w.heap.size _ #[.slice (some ⟨g2, 0, none⟩) (bs.length + 1) cap2, .int .i64 0, .int .i32 2, .slice (some ⟨w.heap.size + 1, 0, none⟩) 1 1, .slice (some ⟨w.heap.size + 1 + 1, 0, none⟩) 1 1, .int .u32 100, .int .i64 0, .int .u32 0] (0, 0) _ rfl HF.out.1 Tryz.underlying41 rfl (by kernel_rfl)) rfl HF.out.2
  · go_simp
    refine hK2.out _ _ (hS1.alloc (Nat.le_refl _) _) (fun hSc => ?_)
    clear hK2 K2
    try simp only [Act.put, List.setIfInBounds_toArray, List.set_cons_zero, List.set_cons_succ]
    refine wpAnyH_ready (rs := [0]) (by kernel_rfl) (by simp) ?_
    refine AllReadyH.cons rfl (fun K3 hK3 => ?_) AllReadyH.nil
    go_simp
    refine hK3.out _ _ (hSc.alloc hSc.size _) (fun hSdc => ?_)
    clear hK3 K3
    try simp only [Act.put, List.setIfInBounds_toArray, List.set_cons_zero, List.set_cons_succ]
    refine wpAnyH_ready (rs := [2]) (by kernel_rfl) (by simp) ?_
    refine AllReadyH.cons rfl (fun K5 hK5 => ?_) AllReadyH.nil
    refine step_elem rfl (.tmp 11) (.tmp 12) 25 rfl w1.heap.size i0 Tryz.underlying25 hi hz0 hz1 hz2 (.slice (some ⟨w1.heap.size + 1, 0, none⟩) 0 0) [] bs rfl (show Own w1.heap.size (World.drew ((w1.alloc (.cells #[.int .u8 81] 5)).alloc (.cells #[] 5))) (.slice (some ⟨w1.heap.size + 1, 0, none⟩) 0 0) [] from own_made_at w1) ⟨_, _, rfl⟩ y rfl (HCH.out _ hSdc) HN.out (by simp; omega) hSdc.size ?_
    intro g1 cap1 wbc hO1c hB1c hG1c
    simp only [List.nil_append, List.length_nil, Nat.zero_add] at hO1c ⊢
    refine hK5.out _ _ (hSdc.trans hB1c) (fun hSbc => ?_)
    clear hK5 K5
    try simp only [Act.put, List.setIfInBounds_toArray, List.set_cons_zero, List.set_cons_succ]
    have h81 : wbc.heap[w1.heap.size]? = some (.cells #[.int .u8 81] 5 (0, 0)) := (hG1c _ (by simp; omega) (by simp [Value.ownBlock])).trans (block_drew (block_alloc (block_new _ _) _))
    refine wpAnyH_ready (rs := [4]) (by kernel_rfl) (by simp) ?_
    refine AllReadyH.cons rfl (fun K6 hK6 => ?_) AllReadyH.nil
    refine step_bytes rfl (.tmp 13) (.tmp 14) 25 rfl w1.heap.size i0 Tryz.underlying25 hi hz0 hz1 hz2 (.slice (some ⟨g1, 0, none⟩) bs.length cap1) bs [81] rfl hO1c w1.heap.size 0 1 rfl (cell_81' h81) (by decide) (by simp; omega) hSbc.size ?_
    intro g2 cap2 wcc hO2c hB2c hG2c
    refine hK6.out _ _ (hSbc.trans hB2c) (fun hScc => ?_)
    clear hK6 K6
    try simp only [Act.put, List.setIfInBounds_toArray, List.set_cons_zero, List.set_cons_succ]
    refine wpAnyH_take (i := 8) (v := ?vCc_8) rfl (by kernel_rfl) (by kernel_rfl) (by kernel_rfl) (fun _ _ _ h => h) (Or.inl ⟨by rfl, ?hyCc_8⟩) hScc ?rCc_8
    case hyCc_8 => (intro w' hSw; go_simp; with_reducible rfl)
    try simp only [Act.put, List.setIfInBounds_toArray, List.set_cons_zero, List.set_cons_succ]
    refine wpAnyH_done (by kernel_rfl) ?_ _
    show Oper.wp _ _ _ _ _ _
    have hzb := (hScc.block w.heap.size (by omega)).trans hZ1
    have zf : ∀ i, wcc.frozen? ⟨w.heap.size, i, none⟩ = false := fun i => free_at hzb i
    have z0 : wcc.cell? ⟨w.heap.size, 0, none⟩ = some (.slice none 0 0) := by rw [cell_at hzb]; rfl
    have z1 : wcc.cell? ⟨w.heap.size, 1, none⟩ = some (.int .i64 0) := by rw [cell_at hzb]; rfl
    have z2 : wcc.cell? ⟨w.heap.size, 2, none⟩ = some (.int .i32 0) := by rw [cell_at hzb]; rfl
    have z3 : wcc.cell? ⟨w.heap.size, 3, none⟩ = some (.slice none 0 0) := by rw [cell_at hzb]; rfl
    have z4 : wcc.cell? ⟨w.heap.size, 4, none⟩ = some (.slice none 0 0) := by rw [cell_at hzb]; rfl
    have z5 : wcc.cell? ⟨w.heap.size, 5, none⟩ = some (.int .u32 0) := by rw [cell_at hzb]; rfl
    have z6 : wcc.cell? ⟨w.heap.size, 6, none⟩ = some (.int .i64 0) := by rw [cell_at hzb]; rfl
    have z7 : wcc.cell? ⟨w.heap.size, 7, none⟩ = some (.int .u32 0) := by rw [cell_at hzb]; rfl
    go_simp
    refine NoPanic.normal ?_
    obtain ⟨hz5, hk5⟩ := put8 hzb (.slice (some ⟨g2, 0, none⟩) (bs.length + 1) cap2) (.int .i64 0) (.int .i32 2) (.slice (some ⟨w.heap.size + 1, 0, none⟩) 1 1) (.slice (some ⟨w.heap.size + 1 + 1, 0, none⟩) 1 1) (.int .u32 100) (.int .i64 0) (.int .u32 0)
    have hF := alone_end hB01 hs1 hScc hO2c hk5 hr hgi1 hgo1
    simp only [chain8] at hz5 hF
    generalize World.setCell _ ⟨w.heap.size, 7, none⟩ _ = w5 at hz5 hF ⊢
    have HF := Lib.hid (And.intro hz5 hF)
    clear hF hz5 hk5 z0 z1 z2 z3 z4 z5 z6 z7 zf hzb
    go_wp2_with fail
    exact bodyPost_ret (v := .agg #[.slice (some ⟨g2, 0, none⟩) (bs.length + 1) cap2, .int .i64 0, .int .i32 2, .slice (some ⟨w.heap.size + 1, 0, none⟩) 1 1, .slice (some ⟨w.heap.size + 1 + 1, 0, none⟩) 1 1, .int .u32 100, .int .i64 0, .int .u32 0]) (results_cell_row Tryz.results10 _ _ w.heap.size _ #[.slice (some ⟨g2, 0, none⟩) (bs.length + 1) cap2, .int .i64 0, .int .i32 2, .slice (some ⟨w.heap.size + 1, 0, none⟩) 1 1, .slice (some ⟨w.heap.size + 1 + 1, 0, none⟩) 1 1, .int .u32 100, .int .i64 0, .int .u32 0] (0, 0) _ rfl HF.out.1 Tryz.underlying41 rfl (by kernel_rfl)) rfl HF.out.2
end Go.Proofs.YtaohcejbjeaemaaGreatDoor

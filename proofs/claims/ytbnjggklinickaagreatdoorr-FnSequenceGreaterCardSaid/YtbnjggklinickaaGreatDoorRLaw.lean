import Derived.Test.YtbnjggklinickaaGreatDoorRLawA
import Derived.BigRegion
namespace Go.Proofs.YtbnjggklinickaaGreatDoorR
open Go Go.RowKit

theorem Own.elem {B : Nat} {w : World} {v : Value} {bs : List Int} (h : Own B w v bs) (hb : ∀ m ∈ bs, 0 ≤ m ∧ m ≤ 255) : Elem (fun k => k < w.heap.size) w v bs := (Elem.of_owns h hb).mono fun k hk => hk.2

theorem Elem.cells {M : Nat → Prop} {w : World} {b o n c : Nat} {bs : List Int} (h : Elem M w (.slice (some ⟨b, o, none⟩) n c) bs) (h0 : 0 < bs.length) : ∀ j, j < bs.length → w.cell? ⟨b, o + j, none⟩ = some (.int .u8 (bs.getD j 0)) := by
  obtain ⟨p, k, e, _, _, _, _, h5⟩ := h
  obtain ⟨b', o', hp, _, hc⟩ := h5 h0
  subst hp
  simp only [Value.slice.injEq, Option.some.injEq, Addr.mk.injEq] at e
  obtain ⟨⟨rfl, rfl, _⟩, _⟩ := e
  exact hc
theorem pair_elem (w : World) : Elem (fun k => k = w.heap.size) (w.alloc (.cells #[.int .u8 178, .int .u8 117] 5)) (.slice (some ⟨w.heap.size, 0, none⟩) 2 2) [178, 117] := by
  refine ⟨_, 2, rfl, by simp, by simp [maxLen], by simp, by simp, fun _ => ⟨w.heap.size, 0, rfl, rfl, fun j hj => ?_⟩⟩
  rw [cell_at (block_new _ _)]
  match j, hj with
  | 0, _ => rfl
  | 1, _ => rfl
theorem rng_tail {pre : List Int} (h : ∀ m ∈ pre, 0 ≤ m ∧ m ≤ 255) : ∀ m ∈ pre ++ [178, 117], 0 ≤ m ∧ m ≤ 255 := by
  intro m hm
  rcases List.mem_append.1 hm with h' | h'
  · exact h m h'
  · simp at h'; omega

/-- The greater one is the smaller one: true at once. -/
theorem law_less {asked lock greater ver : Int} {sec : Bool} (h : greater < lock) (w : World) :
    Calls Tryz.prog 3 #[.int .u16 asked, .bool sec, .int .u16 lock, .int .u16 greater, .int .i32 ver] w fun e w' => e = .returned (.bool true) ∧ Below w.heap.size w w' := by
  go_enter Tryz.func3, Tryz.ntmps3
  go_wp2
  go_ret
  exact ⟨rfl, Below.refl _ _⟩
#print axioms law_less

set_option linter.unusedSimpArgs false in
set_option maxHeartbeats 4000000 in
set_option maxRecDepth 100000 in
theorem law_heights {asked lock greater ver : Int} (ha : 0 ≤ asked ∧ asked < 65536) (hl : 0 ≤ lock ∧ lock < 65536) (hg : 0 ≤ greater ∧ greater < 65536) (hv : -2147483648 ≤ ver ∧ ver < 2147483648) (hle : ¬ greater < lock) (w : World) :
    Calls Tryz.prog 3 #[.int .u16 asked, .bool false, .int .u16 lock, .int .u16 greater, .int .i32 ver] w fun e w' => e = .returned (.bool true) ∧ Below w.heap.size w w' := by
  obtain ⟨i0, hi, hz0, hz1, hz2⟩ := info_parts info_u8
  obtain ⟨pre, bs, hP⟩ := pushed_any asked (by omega)
  have oA : bits .or .u32 0 asked = asked := u32_or0 asked ha.1 ha.2
  have oL : bits .or .u32 0 lock = lock := u32_or0 lock hl.1 hl.2
  have oG : bits .or .u32 0 greater = greater := u32_or0 greater hg.1 hg.2
  have HP := Lib.hid hP
  clear hP
  go_enter Tryz.func3, Tryz.ntmps3
  go_wp2_with fail
  refine (HP.out.bytes w).mono ?_
  rintro e w1 ⟨x1, rfl, hb1, ho1⟩
  have he1 := Own.elem ho1 HP.out.rng
  have HB1 := Lib.hid hb1
  have HE1 := Lib.hid he1
  clear hb1 ho1 he1
  go_wp2_with fail
  refine (HP.out.made _ w1 x1 HE1.out (fun _ h => h)).mono ?_
  rintro e w2 ⟨x2, rfl, hb2, ho2⟩
  have HB2 := Lib.hid hb2
  have HO2 := Lib.hid ho2
  clear hb2 ho2
  go_wp2_with (at_builtin; refine wpList_append_bytes rfl _ _ 24 rfl w1.heap.size 5 i0 Tryz.underlying24 hi hz0 hz1 hz2 x2 pre rfl (World.ownsRow.alloc HO2.out _) _ [178, 117] rfl (pair_elem w2) (by have := HP.out.len; simp; omega) (by have := HB2.out.size; simp; omega) ?_)
  intro x3 w3 ho3 hg3
  have hb3 : Below w.heap.size w w3 := HB1.out.trans ((HB2.out.mono HB1.out.size).trans (((Below.refl _ _).alloc (Nat.le_trans HB1.out.size HB2.out.size) _).grown hg3 (by have := HB1.out.size; have := HB2.out.size; simp; omega) (fun k hk => by have := (World.ownsRow.lt HO2.out k hk).1; have := HB1.out.size; omega)))
  have ho3 : Own w1.heap.size w3 x3 (pre ++ [178, 117]) := by unfold Own; simpa using ho3
  have hr3 : ∀ m ∈ pre ++ [178, 117], 0 ≤ m ∧ m ≤ 255 := rng_tail HP.out.rng'
  obtain ⟨sc, hsc⟩ : ∃ sc, sc = pre ++ [178, 117] := ⟨_, rfl⟩
  have hscl : 0 < sc.length ∧ sc.length ≤ 1000 := by have := HP.out.len; rw [hsc]; simp; omega
  rw [← hsc] at ho3 hr3
  obtain ⟨g3, cap3, rfl⟩ := Own.form ho3 hscl.1
  have HSC := Lib.hid hsc
  clear hsc
  have he3 := Own.elem ho3 hr3
  have HB3 := Lib.hid hb3
  have HE3 := Lib.hid he3
  have HR3 := Lib.hid hr3
  clear hb3 ho3 he3 hr3 hg3 HB1 HB2 HO2 HE1
  go_wp2_with fail
  refine (alone_any (b := g3) (off := 0) hscl.1 hscl.2 (HE3.out.cells hscl.1) HR3.out).mono ?_
  rintro e w4 ⟨p1, k1, gi1, go1, rfl, hb4, he4, hgi4, hgo4, hne4, hpn4, hci4, hco4⟩
  have he34 := Elem.kept HE3.out ((kept_of_below hb4).mono fun k hk => hk)
  have HB4 := Lib.hid hb4
  have HE34 := Lib.hid he34
  have H4 := Lib.hid (And.intro he4 (And.intro hgi4 (And.intro hgo4 (And.intro hne4 (And.intro hpn4 (And.intro hci4 hco4))))))
  clear hb4 he34 he4 hgi4 hgo4 hne4 hpn4 hci4 hco4
  go_wp2_with fail
  refine (alone_any (b := g3) (off := 0) hscl.1 hscl.2 (HE34.out.cells hscl.1) HR3.out).mono ?_
  rintro e w5 ⟨p2, k2, gi2, go2, rfl, hb5, he5, hgi5, hgo5, hne5, hpn5, hci5, hco5⟩
  have HB5 := Lib.hid hb5
  have H5 := Lib.hid (And.intro he5 (And.intro hgi5 (And.intro hgo5 (And.intro hne5 (And.intro hpn5 (And.intro hci5 hco5))))))
  clear hb5 he5 hgi5 hgo5 hne5 hpn5 hci5 hco5
  go_wp2_with fail
  have vL : bits .or .u32 0 (IntKind.u32.wrap lock) = lock := by rw [IntKind.wrap_u32, show lock % 4294967296 = lock by omega]; exact oL
  have vG : bits .or .u32 0 (IntKind.u32.wrap greater) = greater := by rw [IntKind.wrap_u32, show greater % 4294967296 = greater by omega]; exact oG
  obtain ⟨w6, hw6⟩ : ∃ w6, w6 = (w5.alloc (.cells #[.slice p1 (sc.length + 1) k1, .int .i64 0, .int .i32 2, .slice (some ⟨gi1, 0, none⟩) 1 1, .slice (some ⟨go1, 0, none⟩) 1 1, .int .u32 100, .int .i64 0, .int .u32 16] 33)).alloc (.cells #[.slice p2 (sc.length + 1) k2, .int .i64 0, .int .i32 2, .slice (some ⟨gi2, 0, none⟩) 1 1, .slice (some ⟨go2, 0, none⟩) 1 1, .int .u32 100, .int .i64 0, .int .u32 16] 33) := ⟨_, rfl⟩
  rw [← hw6]
  have hA6 : w6.heap[w5.heap.size]? = some (.cells #[.slice p1 (sc.length + 1) k1, .int .i64 0, .int .i32 2, .slice (some ⟨gi1, 0, none⟩) 1 1, .slice (some ⟨go1, 0, none⟩) 1 1, .int .u32 100, .int .i64 0, .int .u32 16] 33 (0, 0)) := by rw [hw6]; exact block_alloc (block_new _ _) _
  have hB6 : w6.heap[w5.heap.size + 1]? = some (.cells #[.slice p2 (sc.length + 1) k2, .int .i64 0, .int .i32 2, .slice (some ⟨gi2, 0, none⟩) 1 1, .slice (some ⟨go2, 0, none⟩) 1 1, .int .u32 100, .int .i64 0, .int .u32 16] 33 (0, 0)) := by rw [hw6]; exact block_new_at _ _ _ (by simp)
  have hK6 : Below w5.heap.size w5 w6 := by rw [hw6]; exact ((Below.refl _ _).alloc (Nat.le_refl _) _).alloc (by simp) _
  clear hw6
  obtain ⟨he4, hgi4, hgo4, hne4, hpn4, hci4, hco4⟩ := H4.out
  obtain ⟨he5, hgi5, hgo5, hne5, hpn5, hci5, hco5⟩ := H5.out
  have z4 := HB4.out.size
  have z5 := HB5.out.size
  have z6 := hK6.size
  have n1 := hgi4.2
  have n2 := hgi5.1
  have n3 := hgi5.2
  have hci16 : w6.heap[gi1]? = some (.cells (in0 100).toArray 40 (0, 0)) := (hK6.block _ (by omega)).trans ((HB5.out.block _ (by omega)).trans hci4)
  have hci26 : w6.heap[gi2]? = some (.cells (in0 100).toArray 40 (0, 0)) := (hK6.block _ (by omega)).trans hci5
  have hS6 : w6.drew.heap[w5.heap.size]? = some (.cells #[.slice p1 (sc.length + 1) k1, .int .i64 0, .int .i32 2, .slice (some ⟨gi1, 0, none⟩) 1 1, .slice (some ⟨go1, 0, none⟩) 1 1, .int .u32 100, .int .i64 0, .int .u32 16] 33 (0, 0)) ∧ w6.drew.heap[w5.heap.size + 1]? = some (.cells #[.slice p2 (sc.length + 1) k2, .int .i64 0, .int .i32 2, .slice (some ⟨gi2, 0, none⟩) 1 1, .slice (some ⟨go2, 0, none⟩) 1 1, .int .u32 100, .int .i64 0, .int .u32 16] 33 (0, 0)) ∧ w6.drew.heap[gi2]? = some (.cells (in0 100).toArray 40 (0, 0)) := ⟨hA6, hB6, hci26⟩
  clear he4 hgi4 hgo4 hne4 hpn4 hci4 hco4 he5 hgi5 hgo5 hne5 hpn5 hci5 hco5
  refine wp_region_noPanic ?_
  refine wp_region_held_last (S := (fun w' => w'.heap[w5.heap.size]? = some (.cells #[.slice p1 (sc.length + 1) k1, .int .i64 0, .int .i32 2, .slice (some ⟨gi1, 0, none⟩) 1 1, .slice (some ⟨go1, 0, none⟩) 1 1, .int .u32 100, .int .i64 0, .int .u32 16] 33 (0, 0)) ∧ w'.heap[w5.heap.size + 1]? = some (.cells #[.slice p2 (sc.length + 1) k2, .int .i64 0, .int .i32 2, .slice (some ⟨gi2, 0, none⟩) 1 1, .slice (some ⟨go2, 0, none⟩) 1 1, .int .u32 100, .int .i64 0, .int .u32 16] 33 (0, 0)) ∧ w'.heap[gi2]? = some (.cells (in0 100).toArray 40 (0, 0)))) _ (by rfl) (by kernel_rfl) (by kernel_rfl) ?_
  simp only [List.dropLast_cons_cons, List.dropLast_singleton, List.length_cons, List.length_nil, Nat.zero_add, Nat.reduceAdd]
  refine wpAnyH_take (i := 0) (v := ?vD_0) rfl (by kernel_rfl) (by kernel_rfl) (by kernel_rfl) (fun _ _ _ h => h) (Or.inl ⟨by rfl, ?hyD_0⟩) hS6 ?rD_0
  case hyD_0 => (intro w' hSw; go_simp; with_reducible rfl)
  try simp only [Act.put, List.setIfInBounds_toArray, List.set_cons_zero, List.set_cons_succ]
  refine wpAnyH_take (i := 1) (v := ?vD_1) rfl (by kernel_rfl) (by kernel_rfl) (by kernel_rfl) (fun _ _ _ h => h) (Or.inl ⟨by rfl, ?hyD_1⟩) hS6 ?rD_1
  case hyD_1 => (intro w' hSw; go_simp; with_reducible rfl)
  try simp only [Act.put, List.setIfInBounds_toArray, List.set_cons_zero, List.set_cons_succ]
  refine wpAnyH_take (i := 2) (v := ?vD_2) rfl (by kernel_rfl) (by kernel_rfl) (by kernel_rfl) (fun _ _ _ h => h) (Or.inl ⟨by rfl, ?hyD_2⟩) hS6 ?rD_2
  case hyD_2 => (intro w' hSw; have hc := (show w'.cell? ⟨w5.heap.size, 3, none⟩ = some (.slice (some ⟨gi1, 0, none⟩) 1 1) from by rw [cell_at hSw.1]; rfl); go_simp; with_reducible rfl)
  try simp only [Act.put, List.setIfInBounds_toArray, List.set_cons_zero, List.set_cons_succ]
  refine wpAnyH_take (i := 3) (v := ?vD_3) rfl (by kernel_rfl) (by kernel_rfl) (by kernel_rfl) (fun _ _ _ h => h) (Or.inl ⟨by rfl, ?hyD_3⟩) hS6 ?rD_3
  case hyD_3 => (intro w' hSw; go_simp; with_reducible rfl)
  try simp only [Act.put, List.setIfInBounds_toArray, List.set_cons_zero, List.set_cons_succ]
  refine wpAnyH_take (i := 4) (v := ?vD_4) rfl (by kernel_rfl) (by kernel_rfl) (by kernel_rfl) (fun _ _ _ h => h) (Or.inl ⟨by rfl, ?hyD_4⟩) hS6 ?rD_4
  case hyD_4 => (intro w' hSw; go_simp; with_reducible rfl)
  try simp only [Act.put, List.setIfInBounds_toArray, List.set_cons_zero, List.set_cons_succ]
  refine wpAnyH_take (i := 5) (v := ?vD_5) rfl (by kernel_rfl) (by kernel_rfl) (by kernel_rfl) (fun _ _ _ h => h) (Or.inl ⟨by rfl, ?hyD_5⟩) hS6 ?rD_5
  case hyD_5 => (intro w' hSw; have hc := (show w'.cell? ⟨w5.heap.size + 1, 3, none⟩ = some (.slice (some ⟨gi2, 0, none⟩) 1 1) from by rw [cell_at hSw.2.1]; rfl); go_simp; with_reducible rfl)
  try simp only [Act.put, List.setIfInBounds_toArray, List.set_cons_zero, List.set_cons_succ]
  refine wpAnyH_take (i := 6) (v := ?vD_6) rfl (by kernel_rfl) (by kernel_rfl) (by kernel_rfl) (fun _ _ _ h => h) (Or.inl ⟨by rfl, ?hyD_6⟩) hS6 ?rD_6
  case hyD_6 => (intro w' hSw; go_simp; with_reducible rfl)
  try simp only [Act.put, List.setIfInBounds_toArray, List.set_cons_zero, List.set_cons_succ]
  refine wpAnyH_take (i := 7) (v := ?vD_7) rfl (by kernel_rfl) (by kernel_rfl) (by kernel_rfl) (fun _ _ _ h => h) (Or.inl ⟨by rfl, ?hyD_7⟩) hS6 ?rD_7
  case hyD_7 => (intro w' hSw; go_simp; with_reducible rfl)
  try simp only [Act.put, List.setIfInBounds_toArray, List.set_cons_zero, List.set_cons_succ]
  refine wpAnyH_take (i := 8) (v := ?vD_8) rfl (by kernel_rfl) (by kernel_rfl) (by kernel_rfl) (fun _ _ _ h => h) (Or.inl ⟨by rfl, ?hyD_8⟩) hS6 ?rD_8
  case hyD_8 => (intro w' hSw; go_simp; with_reducible rfl)
  try simp only [Act.put, List.setIfInBounds_toArray, List.set_cons_zero, List.set_cons_succ]
  refine wpAnyH_take (i := 9) (v := ?vD_9) rfl (by kernel_rfl) (by kernel_rfl) (by kernel_rfl) (fun _ _ _ h => h) (Or.inl ⟨by rfl, ?hyD_9⟩) hS6 ?rD_9
  case hyD_9 => (intro w' hSw; go_simp; with_reducible rfl)
  try simp only [Act.put, List.setIfInBounds_toArray, List.set_cons_zero, List.set_cons_succ]
  refine wpAnyH_take (i := 10) (v := ?vD_10) rfl (by kernel_rfl) (by kernel_rfl) (by kernel_rfl) (fun _ _ _ h => h) (Or.inl ⟨by rfl, ?hyD_10⟩) hS6 ?rD_10
  case hyD_10 => (intro w' hSw; go_simp; with_reducible rfl)
  try simp only [Act.put, List.setIfInBounds_toArray, List.set_cons_zero, List.set_cons_succ]
  refine wpAnyH_take (i := 11) (v := ?vD_11) rfl (by kernel_rfl) (by kernel_rfl) (by kernel_rfl) (fun _ _ _ h => h) (Or.inl ⟨by rfl, ?hyD_11⟩) hS6 ?rD_11
  case hyD_11 => (intro w' hSw; go_simp; with_reducible rfl)
  try simp only [Act.put, List.setIfInBounds_toArray, List.set_cons_zero, List.set_cons_succ]
  refine wpAnyH_take (i := 12) (v := ?vD_12) rfl (by kernel_rfl) (by kernel_rfl) (by kernel_rfl) (fun _ _ _ h => h) (Or.inl ⟨by rfl, ?hyD_12⟩) hS6 ?rD_12
  case hyD_12 => (intro w' hSw; go_simp; with_reducible rfl)
  try simp only [Act.put, List.setIfInBounds_toArray, List.set_cons_zero, List.set_cons_succ]
  refine wpAnyH_take (i := 13) (v := ?vD_13) rfl (by kernel_rfl) (by kernel_rfl) (by kernel_rfl) (fun _ _ _ h => h) (Or.inl ⟨by rfl, ?hyD_13⟩) hS6 ?rD_13
  case hyD_13 => (intro w' hSw; go_simp; with_reducible rfl)
  try simp only [Act.put, List.setIfInBounds_toArray, List.set_cons_zero, List.set_cons_succ]
  refine wpAnyH_take (i := 14) (v := ?vD_14) rfl (by kernel_rfl) (by kernel_rfl) (by kernel_rfl) (fun _ _ _ h => h) (Or.inl ⟨by rfl, ?hyD_14⟩) hS6 ?rD_14
  case hyD_14 => (intro w' hSw; go_simp; with_reducible rfl)
  try simp only [Act.put, List.setIfInBounds_toArray, List.set_cons_zero, List.set_cons_succ]
  refine wpAnyH_take (i := 15) (v := ?vD_15) rfl (by kernel_rfl) (by kernel_rfl) (by kernel_rfl) (fun _ _ _ h => h) (Or.inl ⟨by rfl, ?hyD_15⟩) hS6 ?rD_15
  case hyD_15 => (intro w' hSw; go_simp; with_reducible rfl)
  try simp only [Act.put, List.setIfInBounds_toArray, List.set_cons_zero, List.set_cons_succ]
  refine wpAnyH_ready (rs := [16]) (by kernel_rfl) (by simp) ?_
  refine AllReadyH.cons rfl (fun K1 hK1 => ?_) AllReadyH.nil
  have q1 : w6.cell? ⟨gi1, 35, none⟩ = some (.int .u32 100) := by rw [cell_at hci16]; rfl
  have qf1 : w6.frozen? ⟨gi1, 35, none⟩ = false := free_at hci16 35
  go_simp
  refine hK1.out _ _ ⟨block_setCell_other hA6 _ _ (by simp; omega), block_setCell_other hB6 _ _ (by simp; omega), block_setCell_other hci26 _ _ (by simp; omega)⟩ (fun hS7 => ?_)
  clear q1 qf1
  generalize hw7 : World.drew (World.setCell w6 _ _) = w7 at hS7 ⊢
  have hI7 : w7.heap[gi1]? = some (.cells (in0 lock).toArray 40 (0, 0)) := by rw [← hw7, ← in0_set 100]; exact block_drew (block_setCell hci16 35 _)
  have hK7 : Kept (fun k => k ≠ gi1) w6 w7 := by rw [← hw7]; exact ((Kept.refl _ _).setCell (fun h => h rfl) _).drew
  clear hw7
  clear hK1 K1
  try simp only [Act.put, List.setIfInBounds_toArray, List.set_cons_zero, List.set_cons_succ]
  refine wpAnyH_take (i := 17) (v := ?vD_17) rfl (by kernel_rfl) (by kernel_rfl) (by kernel_rfl) (fun _ _ _ h => h) (Or.inl ⟨by rfl, ?hyD_17⟩) hS7 ?rD_17
  case hyD_17 => (intro w' hSw; go_simp; with_reducible rfl)
  try simp only [Act.put, List.setIfInBounds_toArray, List.set_cons_zero, List.set_cons_succ]
  refine wpAnyH_take (i := 18) (v := ?vD_18) rfl (by kernel_rfl) (by kernel_rfl) (by kernel_rfl) (fun _ _ _ h => h) (Or.inl ⟨by rfl, ?hyD_18⟩) hS7 ?rD_18
  case hyD_18 => (intro w' hSw; go_simp; with_reducible rfl)
  try simp only [Act.put, List.setIfInBounds_toArray, List.set_cons_zero, List.set_cons_succ]
  refine wpAnyH_done (by kernel_rfl) ?_ _
  show Oper.wp _ _ _ _ _ _
  have q2 : w7.cell? ⟨gi2, 35, none⟩ = some (.int .u32 100) := by rw [cell_at hS7.2.2]; rfl
  have qf2 : w7.frozen? ⟨gi2, 35, none⟩ = false := free_at hS7.2.2 35
  go_simp
  refine NoPanic.normal ?_
  generalize hw8 : World.setCell w7 _ _ = w8
  have hA8 : w8.heap[w5.heap.size]? = some (.cells #[.slice p1 (sc.length + 1) k1, .int .i64 0, .int .i32 2, .slice (some ⟨gi1, 0, none⟩) 1 1, .slice (some ⟨go1, 0, none⟩) 1 1, .int .u32 100, .int .i64 0, .int .u32 16] 33 (0, 0)) := by rw [← hw8]; exact block_setCell_other hS7.1 _ _ (by simp; omega)
  have hB8 : w8.heap[w5.heap.size + 1]? = some (.cells #[.slice p2 (sc.length + 1) k2, .int .i64 0, .int .i32 2, .slice (some ⟨gi2, 0, none⟩) 1 1, .slice (some ⟨go2, 0, none⟩) 1 1, .int .u32 100, .int .i64 0, .int .u32 16] 33 (0, 0)) := by rw [← hw8]; exact block_setCell_other hS7.2.1 _ _ (by simp; omega)
  have hI8 : w8.heap[gi1]? = some (.cells (in0 lock).toArray 40 (0, 0)) := by rw [← hw8]; exact block_setCell_other hI7 _ _ (by simp; omega)
  have hJ8 : w8.heap[gi2]? = some (.cells (in0 greater).toArray 40 (0, 0)) := by rw [← hw8, ← in0_set 100]; exact block_setCell hS7.2.2 35 _
  have hK8 : Kept (fun k => k ≠ gi1 ∧ k ≠ gi2) w6 w8 := by rw [← hw8]; exact (hK7.mono fun k hk => hk.1).setCell (fun h => h.2 rfl) _
  clear hw8 q2 qf2 hS7 hI7 hK7 hS6
  have y10 : w8.cell? ⟨w5.heap.size, 0, none⟩ = some (.slice p1 (sc.length + 1) k1) := by rw [cell_at hA8]; rfl
  have y11 : w8.cell? ⟨w5.heap.size, 1, none⟩ = some (.int .i64 0) := by rw [cell_at hA8]; rfl
  have y12 : w8.cell? ⟨w5.heap.size, 2, none⟩ = some (.int .i32 2) := by rw [cell_at hA8]; rfl
  have y13 : w8.cell? ⟨w5.heap.size, 3, none⟩ = some (.slice (some ⟨gi1, 0, none⟩) 1 1) := by rw [cell_at hA8]; rfl
  have y14 : w8.cell? ⟨w5.heap.size, 4, none⟩ = some (.slice (some ⟨go1, 0, none⟩) 1 1) := by rw [cell_at hA8]; rfl
  have y15 : w8.cell? ⟨w5.heap.size, 5, none⟩ = some (.int .u32 100) := by rw [cell_at hA8]; rfl
  have y16 : w8.cell? ⟨w5.heap.size, 6, none⟩ = some (.int .i64 0) := by rw [cell_at hA8]; rfl
  have y17 : w8.cell? ⟨w5.heap.size, 7, none⟩ = some (.int .u32 16) := by rw [cell_at hA8]; rfl
  have yf1 : ∀ i, w8.frozen? ⟨w5.heap.size, i, none⟩ = false := fun i => free_at hA8 i
  have y20 : w8.cell? ⟨w5.heap.size + 1, 0, none⟩ = some (.slice p2 (sc.length + 1) k2) := by rw [cell_at hB8]; rfl
  have y21 : w8.cell? ⟨w5.heap.size + 1, 1, none⟩ = some (.int .i64 0) := by rw [cell_at hB8]; rfl
  have y22 : w8.cell? ⟨w5.heap.size + 1, 2, none⟩ = some (.int .i32 2) := by rw [cell_at hB8]; rfl
  have y23 : w8.cell? ⟨w5.heap.size + 1, 3, none⟩ = some (.slice (some ⟨gi2, 0, none⟩) 1 1) := by rw [cell_at hB8]; rfl
  have y24 : w8.cell? ⟨w5.heap.size + 1, 4, none⟩ = some (.slice (some ⟨go2, 0, none⟩) 1 1) := by rw [cell_at hB8]; rfl
  have y25 : w8.cell? ⟨w5.heap.size + 1, 5, none⟩ = some (.int .u32 100) := by rw [cell_at hB8]; rfl
  have y26 : w8.cell? ⟨w5.heap.size + 1, 6, none⟩ = some (.int .i64 0) := by rw [cell_at hB8]; rfl
  have y27 : w8.cell? ⟨w5.heap.size + 1, 7, none⟩ = some (.int .u32 16) := by rw [cell_at hB8]; rfl
  have yf2 : ∀ i, w8.frozen? ⟨w5.heap.size + 1, i, none⟩ = false := fun i => free_at hB8 i
  go_wp2_with fail
  generalize hw9 : World.setCell _ ⟨w5.heap.size + 1, 2, none⟩ _ = w9
  have hA9 : w9.heap[w5.heap.size]? = some (.cells #[.slice p1 (sc.length + 1) k1, .int .i64 0, .int .i32 ver, .slice (some ⟨gi1, 0, none⟩) 1 1, .slice (some ⟨go1, 0, none⟩) 1 1, .int .u32 100, .int .i64 0, .int .u32 16] 33 (0, 0)) := by rw [← hw9]; exact block_setCell_other (block_setCell hA8 2 _) _ _ (by simp)
  have hB9 : w9.heap[w5.heap.size + 1]? = some (.cells #[.slice p2 (sc.length + 1) k2, .int .i64 0, .int .i32 ver, .slice (some ⟨gi2, 0, none⟩) 1 1, .slice (some ⟨go2, 0, none⟩) 1 1, .int .u32 100, .int .i64 0, .int .u32 16] 33 (0, 0)) := by rw [← hw9]; exact block_setCell (block_setCell_other hB8 _ _ (by simp)) 2 _
  have hI9 : w9.heap[gi1]? = some (.cells (in0 lock).toArray 40 (0, 0)) := by rw [← hw9]; exact block_setCell_other (block_setCell_other hI8 _ _ (by simp; omega)) _ _ (by simp; omega)
  have hJ9 : w9.heap[gi2]? = some (.cells (in0 greater).toArray 40 (0, 0)) := by rw [← hw9]; exact block_setCell_other (block_setCell_other hJ8 _ _ (by simp; omega)) _ _ (by simp; omega)
  have hK9 : Kept (fun k => k ≠ gi1 ∧ k ≠ gi2 ∧ k < w5.heap.size) w6 w9 := by rw [← hw9]; exact ((hK8.mono fun k hk => ⟨hk.1, hk.2.1⟩).setCell (fun h => Nat.lt_irrefl _ h.2.2) _).setCell (fun h => by have := h.2.2; simp at this; omega) _
  clear hw9 hA8 hB8 hI8 hJ8 hK8 y10 y11 y12 y13 y14 y15 y16 y17 y20 y21 y22 y23 y24 y25 y26 y27 yf1 yf2
  obtain ⟨he4, hgi4, hgo4, hne4, hpn4, hci4, hco4⟩ := H4.out
  obtain ⟨he5, hgi5, hgo5, hne5, hpn5, hci5, hco5⟩ := H5.out
  have elen : (sc ++ [81]).length = sc.length + 1 := by simp
  rw [elen] at he4 he5
  have m1 := hgi4.1
  have m2 := hgo4.2
  have m3 := hgo5.1
  have m4 := hgo5.2
  have hk56 : Kept (fun k => k ≠ gi1 ∧ k ≠ gi2 ∧ k < w5.heap.size) w5 w9 := ((kept_of_below hK6).mono fun k hk => hk.2.2).trans hK9
  have hk49 : Kept (fun k => k ≠ gi1 ∧ k < w4.heap.size) w4 w9 := ((kept_of_below HB5.out).mono fun k hk => hk.2).trans (hk56.mono fun k hk => ⟨hk.1, by omega, by omega⟩)
  have hE1 : Elem (fun k => k ≠ gi1 ∧ k < w4.heap.size) w9 (.slice p1 (sc.length + 1) k1) (sc ++ [81]) := ((he4.apart (fun g hg => (hpn4 g hg).1)).mono fun k hk => ⟨hk.2, hk.1.2⟩).kept hk49
  have hE2 : Elem (fun k => k ≠ gi1 ∧ k ≠ gi2 ∧ k < w5.heap.size) w9 (.slice p2 (sc.length + 1) k2) (sc ++ [81]) := ((he5.apart (fun g hg => (hpn5 g hg).1)).mono fun k hk => ⟨by have := hk.1.1; omega, hk.2, hk.1.2⟩).kept hk56
  have hO1 : w9.heap[go1]? = some (.cells #[.int .i64 1, .slice none 0 0] 48 (0, 0)) := (hk49.block _ ⟨fun e => hne4 e.symm, m2⟩).trans hco4
  have hO2 : w9.heap[go2]? = some (.cells #[.int .i64 1, .slice none 0 0] 48 (0, 0)) := (hk56.block _ ⟨by omega, fun e => hne5 e.symm, m4⟩).trans hco5
  have z9 := hk56.size
  have z3 := HB3.out.size
  have hB9' : Below w.heap.size w w9 := HB3.out.trans ((HB4.out.mono z3).trans (Kept.below (hk49.mono fun k hk => ⟨by omega, by omega⟩)))
  obtain ⟨c1, hc1⟩ : ∃ c1 : Int, c1 = if asked ≤ lock ∧ 2 ≤ ver % 4294967296 then 0 else 58 := ⟨_, rfl⟩
  obtain ⟨c2, hc2⟩ : ∃ c2 : Int, c2 = if asked ≤ greater ∧ 2 ≤ ver % 4294967296 then 0 else 58 := ⟨_, rfl⟩
  have els : sc ++ [81] = pre ++ [178, 117, 81] := by rw [HSC.out]; simp
  have HB9 := Lib.hid hB9'
  have HE := Lib.hid (And.intro hE2 (And.intro hJ9 (And.intro hO2 hB9)))
  have HC := Lib.hid (And.intro hc1 (And.intro hc2 (And.intro elen els)))
  have NN := Lib.hid (show w5.heap.size ≤ w9.heap.size ∧ gi2 < w9.heap.size ∧ go2 < w9.heap.size ∧ w5.heap.size + 1 < w9.heap.size from ⟨z9, by omega, by omega, lt_of_block hB9⟩)
  refine (run_seq_at HP.out (ls := sc ++ [81]) els elen hE1 (fun k hk => by omega) hI9 hO1 asked lock ha hl (.inl ⟨rfl, rfl⟩) c1 hc1).mono ?_
  rintro e w10 ⟨⟨v1, rfl⟩, hb10⟩
  have hB10 := (hb10.block _ NN.out.2.2.2).trans HE.out.2.2.2
  have HB10 := Lib.hid hb10
  clear hb10 hc1 hc2 els elen hE1 hE2 hI9 hJ9 hO1 hO2 hA9 hB9 hB9' hk56 hk49 he4 hgi4 hgo4 hne4 hpn4 hci4 hco4 he5 hgi5 hgo5 hne5 hpn5 hci5 hco5 hA6 hB6 hK6 hK9 z3 z4 z5 z6 z9 n1 n2 n3 m1 m2 m3 m4 hci16 hci26 H4 H5 HB3 HB4 HB5 HE3 HE34 HR3
  have y20 : w10.cell? ⟨w5.heap.size + 1, 0, none⟩ = some (.slice p2 (sc.length + 1) k2) := by rw [cell_at hB10]; rfl
  have y21 : w10.cell? ⟨w5.heap.size + 1, 1, none⟩ = some (.int .i64 0) := by rw [cell_at hB10]; rfl
  have y22 : w10.cell? ⟨w5.heap.size + 1, 2, none⟩ = some (.int .i32 ver) := by rw [cell_at hB10]; rfl
  have y23 : w10.cell? ⟨w5.heap.size + 1, 3, none⟩ = some (.slice (some ⟨gi2, 0, none⟩) 1 1) := by rw [cell_at hB10]; rfl
  have y24 : w10.cell? ⟨w5.heap.size + 1, 4, none⟩ = some (.slice (some ⟨go2, 0, none⟩) 1 1) := by rw [cell_at hB10]; rfl
  have y25 : w10.cell? ⟨w5.heap.size + 1, 5, none⟩ = some (.int .u32 100) := by rw [cell_at hB10]; rfl
  have y26 : w10.cell? ⟨w5.heap.size + 1, 6, none⟩ = some (.int .i64 0) := by rw [cell_at hB10]; rfl
  have y27 : w10.cell? ⟨w5.heap.size + 1, 7, none⟩ = some (.int .u32 16) := by rw [cell_at hB10]; rfl
  clear hB10
  go_wp2_with fail
  have hk10 := (kept_of_below HB10.out)
  refine (run_seq_at HP.out (ls := sc ++ [81]) HC.out.2.2.2 HC.out.2.2.1 (HE.out.1.kept (hk10.mono fun k hk => Nat.lt_of_lt_of_le hk.2.2 NN.out.1)) (fun k hk => Nat.lt_of_lt_of_le (Nat.lt_of_lt_of_le hk.2.2 NN.out.1) HB10.out.size) ((HB10.out.block _ NN.out.2.1).trans HE.out.2.1) ((HB10.out.block _ NN.out.2.2.1).trans HE.out.2.2.1) asked greater ha hg (.inl ⟨rfl, rfl⟩) c2 HC.out.2.1).mono ?_
  rintro e w11 ⟨⟨v2, rfl⟩, hb11⟩
  have hB11 := HB9.out.trans ((HB10.out.mono HB9.out.size).trans (hb11.mono (Nat.le_trans HB9.out.size HB10.out.size)))
  have HB11 := Lib.hid hB11
  clear hb11 hB11 hk10 y20 y21 y22 y23 y24 y25 y26 y27
  obtain ⟨hc1, hc2, _, _⟩ := HC.out
  clear HC HE HB10 HB9 NN HSC HP
  by_cases q1 : asked ≤ lock
  · by_cases q2 : 2 ≤ ver % 4294967296
    · obtain rfl : c1 = 0 := by rw [hc1, if_pos ⟨q1, q2⟩]
      obtain rfl : c2 = 0 := by rw [hc2, if_pos ⟨by omega, q2⟩]
      clear hc1 hc2
      go_wp2_with fail
      go_ret
      exact ⟨rfl, HB11.out⟩
    · obtain rfl : c1 = 58 := by rw [hc1, if_neg (fun h => q2 h.2)]
      have q3 : decide ((2 : Int) ≤ ver) = false := by simp; omega
      clear hc1 hc2
      go_wp2_with fail
      go_ret
      exact ⟨rfl, HB11.out⟩
  · obtain rfl : c1 = 58 := by rw [hc1, if_neg (fun h => q1 h.1)]
    clear hc1 hc2
    go_wp2_with fail
    go_ret
    exact ⟨rfl, HB11.out⟩
#print axioms law_heights

set_option linter.unusedSimpArgs false in
set_option maxHeartbeats 4000000 in
set_option maxRecDepth 100000 in
theorem law_seconds {asked lock greater ver : Int} (ha : 0 ≤ asked ∧ asked < 65536) (hl : 0 ≤ lock ∧ lock < 65536) (hg : 0 ≤ greater ∧ greater < 65536) (hv : -2147483648 ≤ ver ∧ ver < 2147483648) (hle : ¬ greater < lock) (w : World) :
    Calls Tryz.prog 3 #[.int .u16 asked, .bool true, .int .u16 lock, .int .u16 greater, .int .i32 ver] w fun e w' => e = .returned (.bool true) ∧ Below w.heap.size w w' := by
  obtain ⟨i0, hi, hz0, hz1, hz2⟩ := info_parts info_u8
  obtain ⟨pre, bs, hP⟩ := pushed_any (4194304 + asked) (by omega)
  have oA : bits .or .u32 4194304 asked = 4194304 + asked := u32_or22 asked ha.1 ha.2
  have oL : bits .or .u32 4194304 lock = 4194304 + lock := u32_or22 lock hl.1 hl.2
  have oG : bits .or .u32 4194304 greater = 4194304 + greater := u32_or22 greater hg.1 hg.2
  have HP := Lib.hid hP
  clear hP
  go_enter Tryz.func3, Tryz.ntmps3
  go_wp2_with fail
  refine (HP.out.bytes w).mono ?_
  rintro e w1 ⟨x1, rfl, hb1, ho1⟩
  have he1 := Own.elem ho1 HP.out.rng
  have HB1 := Lib.hid hb1
  have HE1 := Lib.hid he1
  clear hb1 ho1 he1
  go_wp2_with fail
  refine (HP.out.made _ w1 x1 HE1.out (fun _ h => h)).mono ?_
  rintro e w2 ⟨x2, rfl, hb2, ho2⟩
  have HB2 := Lib.hid hb2
  have HO2 := Lib.hid ho2
  clear hb2 ho2
  go_wp2_with (at_builtin; refine wpList_append_bytes rfl _ _ 24 rfl w1.heap.size 5 i0 Tryz.underlying24 hi hz0 hz1 hz2 x2 pre rfl (World.ownsRow.alloc HO2.out _) _ [178, 117] rfl (pair_elem w2) (by have := HP.out.len; simp; omega) (by have := HB2.out.size; simp; omega) ?_)
  intro x3 w3 ho3 hg3
  have hb3 : Below w.heap.size w w3 := HB1.out.trans ((HB2.out.mono HB1.out.size).trans (((Below.refl _ _).alloc (Nat.le_trans HB1.out.size HB2.out.size) _).grown hg3 (by have := HB1.out.size; have := HB2.out.size; simp; omega) (fun k hk => by have := (World.ownsRow.lt HO2.out k hk).1; have := HB1.out.size; omega)))
  have ho3 : Own w1.heap.size w3 x3 (pre ++ [178, 117]) := by unfold Own; simpa using ho3
  have hr3 : ∀ m ∈ pre ++ [178, 117], 0 ≤ m ∧ m ≤ 255 := rng_tail HP.out.rng'
  obtain ⟨sc, hsc⟩ : ∃ sc, sc = pre ++ [178, 117] := ⟨_, rfl⟩
  have hscl : 0 < sc.length ∧ sc.length ≤ 1000 := by have := HP.out.len; rw [hsc]; simp; omega
  rw [← hsc] at ho3 hr3
  obtain ⟨g3, cap3, rfl⟩ := Own.form ho3 hscl.1
  have HSC := Lib.hid hsc
  clear hsc
  have he3 := Own.elem ho3 hr3
  have HB3 := Lib.hid hb3
  have HE3 := Lib.hid he3
  have HR3 := Lib.hid hr3
  clear hb3 ho3 he3 hr3 hg3 HB1 HB2 HO2 HE1
  go_wp2_with fail
  refine (alone_any (b := g3) (off := 0) hscl.1 hscl.2 (HE3.out.cells hscl.1) HR3.out).mono ?_
  rintro e w4 ⟨p1, k1, gi1, go1, rfl, hb4, he4, hgi4, hgo4, hne4, hpn4, hci4, hco4⟩
  have he34 := Elem.kept HE3.out ((kept_of_below hb4).mono fun k hk => hk)
  have HB4 := Lib.hid hb4
  have HE34 := Lib.hid he34
  have H4 := Lib.hid (And.intro he4 (And.intro hgi4 (And.intro hgo4 (And.intro hne4 (And.intro hpn4 (And.intro hci4 hco4))))))
  clear hb4 he34 he4 hgi4 hgo4 hne4 hpn4 hci4 hco4
  go_wp2_with fail
  refine (alone_any (b := g3) (off := 0) hscl.1 hscl.2 (HE34.out.cells hscl.1) HR3.out).mono ?_
  rintro e w5 ⟨p2, k2, gi2, go2, rfl, hb5, he5, hgi5, hgo5, hne5, hpn5, hci5, hco5⟩
  have HB5 := Lib.hid hb5
  have H5 := Lib.hid (And.intro he5 (And.intro hgi5 (And.intro hgo5 (And.intro hne5 (And.intro hpn5 (And.intro hci5 hco5))))))
  clear hb5 he5 hgi5 hgo5 hne5 hpn5 hci5 hco5
  go_wp2_with fail
  have vL : bits .or .u32 4194304 (IntKind.u32.wrap lock) = 4194304 + lock := by rw [IntKind.wrap_u32, show lock % 4294967296 = lock by omega]; exact oL
  have vG : bits .or .u32 4194304 (IntKind.u32.wrap greater) = 4194304 + greater := by rw [IntKind.wrap_u32, show greater % 4294967296 = greater by omega]; exact oG
  obtain ⟨w6, hw6⟩ : ∃ w6, w6 = (w5.alloc (.cells #[.slice p1 (sc.length + 1) k1, .int .i64 0, .int .i32 2, .slice (some ⟨gi1, 0, none⟩) 1 1, .slice (some ⟨go1, 0, none⟩) 1 1, .int .u32 100, .int .i64 0, .int .u32 16] 33)).alloc (.cells #[.slice p2 (sc.length + 1) k2, .int .i64 0, .int .i32 2, .slice (some ⟨gi2, 0, none⟩) 1 1, .slice (some ⟨go2, 0, none⟩) 1 1, .int .u32 100, .int .i64 0, .int .u32 16] 33) := ⟨_, rfl⟩
  rw [← hw6]
  have hA6 : w6.heap[w5.heap.size]? = some (.cells #[.slice p1 (sc.length + 1) k1, .int .i64 0, .int .i32 2, .slice (some ⟨gi1, 0, none⟩) 1 1, .slice (some ⟨go1, 0, none⟩) 1 1, .int .u32 100, .int .i64 0, .int .u32 16] 33 (0, 0)) := by rw [hw6]; exact block_alloc (block_new _ _) _
  have hB6 : w6.heap[w5.heap.size + 1]? = some (.cells #[.slice p2 (sc.length + 1) k2, .int .i64 0, .int .i32 2, .slice (some ⟨gi2, 0, none⟩) 1 1, .slice (some ⟨go2, 0, none⟩) 1 1, .int .u32 100, .int .i64 0, .int .u32 16] 33 (0, 0)) := by rw [hw6]; exact block_new_at _ _ _ (by simp)
  have hK6 : Below w5.heap.size w5 w6 := by rw [hw6]; exact ((Below.refl _ _).alloc (Nat.le_refl _) _).alloc (by simp) _
  clear hw6
  obtain ⟨he4, hgi4, hgo4, hne4, hpn4, hci4, hco4⟩ := H4.out
  obtain ⟨he5, hgi5, hgo5, hne5, hpn5, hci5, hco5⟩ := H5.out
  have z4 := HB4.out.size
  have z5 := HB5.out.size
  have z6 := hK6.size
  have n1 := hgi4.2
  have n2 := hgi5.1
  have n3 := hgi5.2
  have hci16 : w6.heap[gi1]? = some (.cells (in0 100).toArray 40 (0, 0)) := (hK6.block _ (by omega)).trans ((HB5.out.block _ (by omega)).trans hci4)
  have hci26 : w6.heap[gi2]? = some (.cells (in0 100).toArray 40 (0, 0)) := (hK6.block _ (by omega)).trans hci5
  have hS6 : w6.drew.heap[w5.heap.size]? = some (.cells #[.slice p1 (sc.length + 1) k1, .int .i64 0, .int .i32 2, .slice (some ⟨gi1, 0, none⟩) 1 1, .slice (some ⟨go1, 0, none⟩) 1 1, .int .u32 100, .int .i64 0, .int .u32 16] 33 (0, 0)) ∧ w6.drew.heap[w5.heap.size + 1]? = some (.cells #[.slice p2 (sc.length + 1) k2, .int .i64 0, .int .i32 2, .slice (some ⟨gi2, 0, none⟩) 1 1, .slice (some ⟨go2, 0, none⟩) 1 1, .int .u32 100, .int .i64 0, .int .u32 16] 33 (0, 0)) ∧ w6.drew.heap[gi2]? = some (.cells (in0 100).toArray 40 (0, 0)) := ⟨hA6, hB6, hci26⟩
  clear he4 hgi4 hgo4 hne4 hpn4 hci4 hco4 he5 hgi5 hgo5 hne5 hpn5 hci5 hco5
  refine wp_region_noPanic ?_
  refine wp_region_held_last (S := (fun w' => w'.heap[w5.heap.size]? = some (.cells #[.slice p1 (sc.length + 1) k1, .int .i64 0, .int .i32 2, .slice (some ⟨gi1, 0, none⟩) 1 1, .slice (some ⟨go1, 0, none⟩) 1 1, .int .u32 100, .int .i64 0, .int .u32 16] 33 (0, 0)) ∧ w'.heap[w5.heap.size + 1]? = some (.cells #[.slice p2 (sc.length + 1) k2, .int .i64 0, .int .i32 2, .slice (some ⟨gi2, 0, none⟩) 1 1, .slice (some ⟨go2, 0, none⟩) 1 1, .int .u32 100, .int .i64 0, .int .u32 16] 33 (0, 0)) ∧ w'.heap[gi2]? = some (.cells (in0 100).toArray 40 (0, 0)))) _ (by rfl) (by kernel_rfl) (by kernel_rfl) ?_
  simp only [List.dropLast_cons_cons, List.dropLast_singleton, List.length_cons, List.length_nil, Nat.zero_add, Nat.reduceAdd]
  refine wpAnyH_take (i := 0) (v := ?vD_0) rfl (by kernel_rfl) (by kernel_rfl) (by kernel_rfl) (fun _ _ _ h => h) (Or.inl ⟨by rfl, ?hyD_0⟩) hS6 ?rD_0
  case hyD_0 => (intro w' hSw; go_simp; with_reducible rfl)
  try simp only [Act.put, List.setIfInBounds_toArray, List.set_cons_zero, List.set_cons_succ]
  refine wpAnyH_take (i := 1) (v := ?vD_1) rfl (by kernel_rfl) (by kernel_rfl) (by kernel_rfl) (fun _ _ _ h => h) (Or.inl ⟨by rfl, ?hyD_1⟩) hS6 ?rD_1
  case hyD_1 => (intro w' hSw; go_simp; with_reducible rfl)
  try simp only [Act.put, List.setIfInBounds_toArray, List.set_cons_zero, List.set_cons_succ]
  refine wpAnyH_take (i := 2) (v := ?vD_2) rfl (by kernel_rfl) (by kernel_rfl) (by kernel_rfl) (fun _ _ _ h => h) (Or.inl ⟨by rfl, ?hyD_2⟩) hS6 ?rD_2
  case hyD_2 => (intro w' hSw; have hc := (show w'.cell? ⟨w5.heap.size, 3, none⟩ = some (.slice (some ⟨gi1, 0, none⟩) 1 1) from by rw [cell_at hSw.1]; rfl); go_simp; with_reducible rfl)
  try simp only [Act.put, List.setIfInBounds_toArray, List.set_cons_zero, List.set_cons_succ]
  refine wpAnyH_take (i := 3) (v := ?vD_3) rfl (by kernel_rfl) (by kernel_rfl) (by kernel_rfl) (fun _ _ _ h => h) (Or.inl ⟨by rfl, ?hyD_3⟩) hS6 ?rD_3
  case hyD_3 => (intro w' hSw; go_simp; with_reducible rfl)
  try simp only [Act.put, List.setIfInBounds_toArray, List.set_cons_zero, List.set_cons_succ]
  refine wpAnyH_take (i := 4) (v := ?vD_4) rfl (by kernel_rfl) (by kernel_rfl) (by kernel_rfl) (fun _ _ _ h => h) (Or.inl ⟨by rfl, ?hyD_4⟩) hS6 ?rD_4
  case hyD_4 => (intro w' hSw; go_simp; with_reducible rfl)
  try simp only [Act.put, List.setIfInBounds_toArray, List.set_cons_zero, List.set_cons_succ]
  refine wpAnyH_take (i := 5) (v := ?vD_5) rfl (by kernel_rfl) (by kernel_rfl) (by kernel_rfl) (fun _ _ _ h => h) (Or.inl ⟨by rfl, ?hyD_5⟩) hS6 ?rD_5
  case hyD_5 => (intro w' hSw; have hc := (show w'.cell? ⟨w5.heap.size + 1, 3, none⟩ = some (.slice (some ⟨gi2, 0, none⟩) 1 1) from by rw [cell_at hSw.2.1]; rfl); go_simp; with_reducible rfl)
  try simp only [Act.put, List.setIfInBounds_toArray, List.set_cons_zero, List.set_cons_succ]
  refine wpAnyH_take (i := 6) (v := ?vD_6) rfl (by kernel_rfl) (by kernel_rfl) (by kernel_rfl) (fun _ _ _ h => h) (Or.inl ⟨by rfl, ?hyD_6⟩) hS6 ?rD_6
  case hyD_6 => (intro w' hSw; go_simp; with_reducible rfl)
  try simp only [Act.put, List.setIfInBounds_toArray, List.set_cons_zero, List.set_cons_succ]
  refine wpAnyH_take (i := 7) (v := ?vD_7) rfl (by kernel_rfl) (by kernel_rfl) (by kernel_rfl) (fun _ _ _ h => h) (Or.inl ⟨by rfl, ?hyD_7⟩) hS6 ?rD_7
  case hyD_7 => (intro w' hSw; go_simp; with_reducible rfl)
  try simp only [Act.put, List.setIfInBounds_toArray, List.set_cons_zero, List.set_cons_succ]
  refine wpAnyH_take (i := 8) (v := ?vD_8) rfl (by kernel_rfl) (by kernel_rfl) (by kernel_rfl) (fun _ _ _ h => h) (Or.inl ⟨by rfl, ?hyD_8⟩) hS6 ?rD_8
  case hyD_8 => (intro w' hSw; go_simp; with_reducible rfl)
  try simp only [Act.put, List.setIfInBounds_toArray, List.set_cons_zero, List.set_cons_succ]
  refine wpAnyH_take (i := 9) (v := ?vD_9) rfl (by kernel_rfl) (by kernel_rfl) (by kernel_rfl) (fun _ _ _ h => h) (Or.inl ⟨by rfl, ?hyD_9⟩) hS6 ?rD_9
  case hyD_9 => (intro w' hSw; go_simp; with_reducible rfl)
  try simp only [Act.put, List.setIfInBounds_toArray, List.set_cons_zero, List.set_cons_succ]
  refine wpAnyH_take (i := 10) (v := ?vD_10) rfl (by kernel_rfl) (by kernel_rfl) (by kernel_rfl) (fun _ _ _ h => h) (Or.inl ⟨by rfl, ?hyD_10⟩) hS6 ?rD_10
  case hyD_10 => (intro w' hSw; go_simp; with_reducible rfl)
  try simp only [Act.put, List.setIfInBounds_toArray, List.set_cons_zero, List.set_cons_succ]
  refine wpAnyH_take (i := 11) (v := ?vD_11) rfl (by kernel_rfl) (by kernel_rfl) (by kernel_rfl) (fun _ _ _ h => h) (Or.inl ⟨by rfl, ?hyD_11⟩) hS6 ?rD_11
  case hyD_11 => (intro w' hSw; go_simp; with_reducible rfl)
  try simp only [Act.put, List.setIfInBounds_toArray, List.set_cons_zero, List.set_cons_succ]
  refine wpAnyH_take (i := 12) (v := ?vD_12) rfl (by kernel_rfl) (by kernel_rfl) (by kernel_rfl) (fun _ _ _ h => h) (Or.inl ⟨by rfl, ?hyD_12⟩) hS6 ?rD_12
  case hyD_12 => (intro w' hSw; go_simp; with_reducible rfl)
  try simp only [Act.put, List.setIfInBounds_toArray, List.set_cons_zero, List.set_cons_succ]
  refine wpAnyH_take (i := 13) (v := ?vD_13) rfl (by kernel_rfl) (by kernel_rfl) (by kernel_rfl) (fun _ _ _ h => h) (Or.inl ⟨by rfl, ?hyD_13⟩) hS6 ?rD_13
  case hyD_13 => (intro w' hSw; go_simp; with_reducible rfl)
  try simp only [Act.put, List.setIfInBounds_toArray, List.set_cons_zero, List.set_cons_succ]
  refine wpAnyH_take (i := 14) (v := ?vD_14) rfl (by kernel_rfl) (by kernel_rfl) (by kernel_rfl) (fun _ _ _ h => h) (Or.inl ⟨by rfl, ?hyD_14⟩) hS6 ?rD_14
  case hyD_14 => (intro w' hSw; go_simp; with_reducible rfl)
  try simp only [Act.put, List.setIfInBounds_toArray, List.set_cons_zero, List.set_cons_succ]
  refine wpAnyH_take (i := 15) (v := ?vD_15) rfl (by kernel_rfl) (by kernel_rfl) (by kernel_rfl) (fun _ _ _ h => h) (Or.inl ⟨by rfl, ?hyD_15⟩) hS6 ?rD_15
  case hyD_15 => (intro w' hSw; go_simp; with_reducible rfl)
  try simp only [Act.put, List.setIfInBounds_toArray, List.set_cons_zero, List.set_cons_succ]
  refine wpAnyH_ready (rs := [16]) (by kernel_rfl) (by simp) ?_
  refine AllReadyH.cons rfl (fun K1 hK1 => ?_) AllReadyH.nil
  have q1 : w6.cell? ⟨gi1, 35, none⟩ = some (.int .u32 100) := by rw [cell_at hci16]; rfl
  have qf1 : w6.frozen? ⟨gi1, 35, none⟩ = false := free_at hci16 35
  go_simp
  refine hK1.out _ _ ⟨block_setCell_other hA6 _ _ (by simp; omega), block_setCell_other hB6 _ _ (by simp; omega), block_setCell_other hci26 _ _ (by simp; omega)⟩ (fun hS7 => ?_)
  clear q1 qf1
  generalize hw7 : World.drew (World.setCell w6 _ _) = w7 at hS7 ⊢
  have hI7 : w7.heap[gi1]? = some (.cells (in0 (4194304 + lock)).toArray 40 (0, 0)) := by rw [← hw7, ← in0_set 100]; exact block_drew (block_setCell hci16 35 _)
  have hK7 : Kept (fun k => k ≠ gi1) w6 w7 := by rw [← hw7]; exact ((Kept.refl _ _).setCell (fun h => h rfl) _).drew
  clear hw7
  clear hK1 K1
  try simp only [Act.put, List.setIfInBounds_toArray, List.set_cons_zero, List.set_cons_succ]
  refine wpAnyH_take (i := 17) (v := ?vD_17) rfl (by kernel_rfl) (by kernel_rfl) (by kernel_rfl) (fun _ _ _ h => h) (Or.inl ⟨by rfl, ?hyD_17⟩) hS7 ?rD_17
  case hyD_17 => (intro w' hSw; go_simp; with_reducible rfl)
  try simp only [Act.put, List.setIfInBounds_toArray, List.set_cons_zero, List.set_cons_succ]
  refine wpAnyH_take (i := 18) (v := ?vD_18) rfl (by kernel_rfl) (by kernel_rfl) (by kernel_rfl) (fun _ _ _ h => h) (Or.inl ⟨by rfl, ?hyD_18⟩) hS7 ?rD_18
  case hyD_18 => (intro w' hSw; go_simp; with_reducible rfl)
  try simp only [Act.put, List.setIfInBounds_toArray, List.set_cons_zero, List.set_cons_succ]
  refine wpAnyH_done (by kernel_rfl) ?_ _
  show Oper.wp _ _ _ _ _ _
  have q2 : w7.cell? ⟨gi2, 35, none⟩ = some (.int .u32 100) := by rw [cell_at hS7.2.2]; rfl
  have qf2 : w7.frozen? ⟨gi2, 35, none⟩ = false := free_at hS7.2.2 35
  go_simp
  refine NoPanic.normal ?_
  generalize hw8 : World.setCell w7 _ _ = w8
  have hA8 : w8.heap[w5.heap.size]? = some (.cells #[.slice p1 (sc.length + 1) k1, .int .i64 0, .int .i32 2, .slice (some ⟨gi1, 0, none⟩) 1 1, .slice (some ⟨go1, 0, none⟩) 1 1, .int .u32 100, .int .i64 0, .int .u32 16] 33 (0, 0)) := by rw [← hw8]; exact block_setCell_other hS7.1 _ _ (by simp; omega)
  have hB8 : w8.heap[w5.heap.size + 1]? = some (.cells #[.slice p2 (sc.length + 1) k2, .int .i64 0, .int .i32 2, .slice (some ⟨gi2, 0, none⟩) 1 1, .slice (some ⟨go2, 0, none⟩) 1 1, .int .u32 100, .int .i64 0, .int .u32 16] 33 (0, 0)) := by rw [← hw8]; exact block_setCell_other hS7.2.1 _ _ (by simp; omega)
  have hI8 : w8.heap[gi1]? = some (.cells (in0 (4194304 + lock)).toArray 40 (0, 0)) := by rw [← hw8]; exact block_setCell_other hI7 _ _ (by simp; omega)
  have hJ8 : w8.heap[gi2]? = some (.cells (in0 (4194304 + greater)).toArray 40 (0, 0)) := by rw [← hw8, ← in0_set 100]; exact block_setCell hS7.2.2 35 _
  have hK8 : Kept (fun k => k ≠ gi1 ∧ k ≠ gi2) w6 w8 := by rw [← hw8]; exact (hK7.mono fun k hk => hk.1).setCell (fun h => h.2 rfl) _
  clear hw8 q2 qf2 hS7 hI7 hK7 hS6
  have y10 : w8.cell? ⟨w5.heap.size, 0, none⟩ = some (.slice p1 (sc.length + 1) k1) := by rw [cell_at hA8]; rfl
  have y11 : w8.cell? ⟨w5.heap.size, 1, none⟩ = some (.int .i64 0) := by rw [cell_at hA8]; rfl
  have y12 : w8.cell? ⟨w5.heap.size, 2, none⟩ = some (.int .i32 2) := by rw [cell_at hA8]; rfl
  have y13 : w8.cell? ⟨w5.heap.size, 3, none⟩ = some (.slice (some ⟨gi1, 0, none⟩) 1 1) := by rw [cell_at hA8]; rfl
  have y14 : w8.cell? ⟨w5.heap.size, 4, none⟩ = some (.slice (some ⟨go1, 0, none⟩) 1 1) := by rw [cell_at hA8]; rfl
  have y15 : w8.cell? ⟨w5.heap.size, 5, none⟩ = some (.int .u32 100) := by rw [cell_at hA8]; rfl
  have y16 : w8.cell? ⟨w5.heap.size, 6, none⟩ = some (.int .i64 0) := by rw [cell_at hA8]; rfl
  have y17 : w8.cell? ⟨w5.heap.size, 7, none⟩ = some (.int .u32 16) := by rw [cell_at hA8]; rfl
  have yf1 : ∀ i, w8.frozen? ⟨w5.heap.size, i, none⟩ = false := fun i => free_at hA8 i
  have y20 : w8.cell? ⟨w5.heap.size + 1, 0, none⟩ = some (.slice p2 (sc.length + 1) k2) := by rw [cell_at hB8]; rfl
  have y21 : w8.cell? ⟨w5.heap.size + 1, 1, none⟩ = some (.int .i64 0) := by rw [cell_at hB8]; rfl
  have y22 : w8.cell? ⟨w5.heap.size + 1, 2, none⟩ = some (.int .i32 2) := by rw [cell_at hB8]; rfl
  have y23 : w8.cell? ⟨w5.heap.size + 1, 3, none⟩ = some (.slice (some ⟨gi2, 0, none⟩) 1 1) := by rw [cell_at hB8]; rfl
  have y24 : w8.cell? ⟨w5.heap.size + 1, 4, none⟩ = some (.slice (some ⟨go2, 0, none⟩) 1 1) := by rw [cell_at hB8]; rfl
  have y25 : w8.cell? ⟨w5.heap.size + 1, 5, none⟩ = some (.int .u32 100) := by rw [cell_at hB8]; rfl
  have y26 : w8.cell? ⟨w5.heap.size + 1, 6, none⟩ = some (.int .i64 0) := by rw [cell_at hB8]; rfl
  have y27 : w8.cell? ⟨w5.heap.size + 1, 7, none⟩ = some (.int .u32 16) := by rw [cell_at hB8]; rfl
  have yf2 : ∀ i, w8.frozen? ⟨w5.heap.size + 1, i, none⟩ = false := fun i => free_at hB8 i
  go_wp2_with fail
  generalize hw9 : World.setCell _ ⟨w5.heap.size + 1, 2, none⟩ _ = w9
  have hA9 : w9.heap[w5.heap.size]? = some (.cells #[.slice p1 (sc.length + 1) k1, .int .i64 0, .int .i32 ver, .slice (some ⟨gi1, 0, none⟩) 1 1, .slice (some ⟨go1, 0, none⟩) 1 1, .int .u32 100, .int .i64 0, .int .u32 16] 33 (0, 0)) := by rw [← hw9]; exact block_setCell_other (block_setCell hA8 2 _) _ _ (by simp)
  have hB9 : w9.heap[w5.heap.size + 1]? = some (.cells #[.slice p2 (sc.length + 1) k2, .int .i64 0, .int .i32 ver, .slice (some ⟨gi2, 0, none⟩) 1 1, .slice (some ⟨go2, 0, none⟩) 1 1, .int .u32 100, .int .i64 0, .int .u32 16] 33 (0, 0)) := by rw [← hw9]; exact block_setCell (block_setCell_other hB8 _ _ (by simp)) 2 _
  have hI9 : w9.heap[gi1]? = some (.cells (in0 (4194304 + lock)).toArray 40 (0, 0)) := by rw [← hw9]; exact block_setCell_other (block_setCell_other hI8 _ _ (by simp; omega)) _ _ (by simp; omega)
  have hJ9 : w9.heap[gi2]? = some (.cells (in0 (4194304 + greater)).toArray 40 (0, 0)) := by rw [← hw9]; exact block_setCell_other (block_setCell_other hJ8 _ _ (by simp; omega)) _ _ (by simp; omega)
  have hK9 : Kept (fun k => k ≠ gi1 ∧ k ≠ gi2 ∧ k < w5.heap.size) w6 w9 := by rw [← hw9]; exact ((hK8.mono fun k hk => ⟨hk.1, hk.2.1⟩).setCell (fun h => Nat.lt_irrefl _ h.2.2) _).setCell (fun h => by have := h.2.2; simp at this; omega) _
  clear hw9 hA8 hB8 hI8 hJ8 hK8 y10 y11 y12 y13 y14 y15 y16 y17 y20 y21 y22 y23 y24 y25 y26 y27 yf1 yf2
  obtain ⟨he4, hgi4, hgo4, hne4, hpn4, hci4, hco4⟩ := H4.out
  obtain ⟨he5, hgi5, hgo5, hne5, hpn5, hci5, hco5⟩ := H5.out
  have elen : (sc ++ [81]).length = sc.length + 1 := by simp
  rw [elen] at he4 he5
  have m1 := hgi4.1
  have m2 := hgo4.2
  have m3 := hgo5.1
  have m4 := hgo5.2
  have hk56 : Kept (fun k => k ≠ gi1 ∧ k ≠ gi2 ∧ k < w5.heap.size) w5 w9 := ((kept_of_below hK6).mono fun k hk => hk.2.2).trans hK9
  have hk49 : Kept (fun k => k ≠ gi1 ∧ k < w4.heap.size) w4 w9 := ((kept_of_below HB5.out).mono fun k hk => hk.2).trans (hk56.mono fun k hk => ⟨hk.1, by omega, by omega⟩)
  have hE1 : Elem (fun k => k ≠ gi1 ∧ k < w4.heap.size) w9 (.slice p1 (sc.length + 1) k1) (sc ++ [81]) := ((he4.apart (fun g hg => (hpn4 g hg).1)).mono fun k hk => ⟨hk.2, hk.1.2⟩).kept hk49
  have hE2 : Elem (fun k => k ≠ gi1 ∧ k ≠ gi2 ∧ k < w5.heap.size) w9 (.slice p2 (sc.length + 1) k2) (sc ++ [81]) := ((he5.apart (fun g hg => (hpn5 g hg).1)).mono fun k hk => ⟨by have := hk.1.1; omega, hk.2, hk.1.2⟩).kept hk56
  have hO1 : w9.heap[go1]? = some (.cells #[.int .i64 1, .slice none 0 0] 48 (0, 0)) := (hk49.block _ ⟨fun e => hne4 e.symm, m2⟩).trans hco4
  have hO2 : w9.heap[go2]? = some (.cells #[.int .i64 1, .slice none 0 0] 48 (0, 0)) := (hk56.block _ ⟨by omega, fun e => hne5 e.symm, m4⟩).trans hco5
  have z9 := hk56.size
  have z3 := HB3.out.size
  have hB9' : Below w.heap.size w w9 := HB3.out.trans ((HB4.out.mono z3).trans (Kept.below (hk49.mono fun k hk => ⟨by omega, by omega⟩)))
  obtain ⟨c1, hc1⟩ : ∃ c1 : Int, c1 = if asked ≤ lock ∧ 2 ≤ ver % 4294967296 then 0 else 58 := ⟨_, rfl⟩
  obtain ⟨c2, hc2⟩ : ∃ c2 : Int, c2 = if asked ≤ greater ∧ 2 ≤ ver % 4294967296 then 0 else 58 := ⟨_, rfl⟩
  have els : sc ++ [81] = pre ++ [178, 117, 81] := by rw [HSC.out]; simp
  have HB9 := Lib.hid hB9'
  have HE := Lib.hid (And.intro hE2 (And.intro hJ9 (And.intro hO2 hB9)))
  have HC := Lib.hid (And.intro hc1 (And.intro hc2 (And.intro elen els)))
  have NN := Lib.hid (show w5.heap.size ≤ w9.heap.size ∧ gi2 < w9.heap.size ∧ go2 < w9.heap.size ∧ w5.heap.size + 1 < w9.heap.size from ⟨z9, by omega, by omega, lt_of_block hB9⟩)
  refine (run_seq_at HP.out (ls := sc ++ [81]) els elen hE1 (fun k hk => by omega) hI9 hO1 asked lock ha hl (.inr ⟨rfl, rfl⟩) c1 hc1).mono ?_
  rintro e w10 ⟨⟨v1, rfl⟩, hb10⟩
  have hB10 := (hb10.block _ NN.out.2.2.2).trans HE.out.2.2.2
  have HB10 := Lib.hid hb10
  clear hb10 hc1 hc2 els elen hE1 hE2 hI9 hJ9 hO1 hO2 hA9 hB9 hB9' hk56 hk49 he4 hgi4 hgo4 hne4 hpn4 hci4 hco4 he5 hgi5 hgo5 hne5 hpn5 hci5 hco5 hA6 hB6 hK6 hK9 z3 z4 z5 z6 z9 n1 n2 n3 m1 m2 m3 m4 hci16 hci26 H4 H5 HB3 HB4 HB5 HE3 HE34 HR3
  have y20 : w10.cell? ⟨w5.heap.size + 1, 0, none⟩ = some (.slice p2 (sc.length + 1) k2) := by rw [cell_at hB10]; rfl
  have y21 : w10.cell? ⟨w5.heap.size + 1, 1, none⟩ = some (.int .i64 0) := by rw [cell_at hB10]; rfl
  have y22 : w10.cell? ⟨w5.heap.size + 1, 2, none⟩ = some (.int .i32 ver) := by rw [cell_at hB10]; rfl
  have y23 : w10.cell? ⟨w5.heap.size + 1, 3, none⟩ = some (.slice (some ⟨gi2, 0, none⟩) 1 1) := by rw [cell_at hB10]; rfl
  have y24 : w10.cell? ⟨w5.heap.size + 1, 4, none⟩ = some (.slice (some ⟨go2, 0, none⟩) 1 1) := by rw [cell_at hB10]; rfl
  have y25 : w10.cell? ⟨w5.heap.size + 1, 5, none⟩ = some (.int .u32 100) := by rw [cell_at hB10]; rfl
  have y26 : w10.cell? ⟨w5.heap.size + 1, 6, none⟩ = some (.int .i64 0) := by rw [cell_at hB10]; rfl
  have y27 : w10.cell? ⟨w5.heap.size + 1, 7, none⟩ = some (.int .u32 16) := by rw [cell_at hB10]; rfl
  clear hB10
  go_wp2_with fail
  have hk10 := (kept_of_below HB10.out)
  refine (run_seq_at HP.out (ls := sc ++ [81]) HC.out.2.2.2 HC.out.2.2.1 (HE.out.1.kept (hk10.mono fun k hk => Nat.lt_of_lt_of_le hk.2.2 NN.out.1)) (fun k hk => Nat.lt_of_lt_of_le (Nat.lt_of_lt_of_le hk.2.2 NN.out.1) HB10.out.size) ((HB10.out.block _ NN.out.2.1).trans HE.out.2.1) ((HB10.out.block _ NN.out.2.2.1).trans HE.out.2.2.1) asked greater ha hg (.inr ⟨rfl, rfl⟩) c2 HC.out.2.1).mono ?_
  rintro e w11 ⟨⟨v2, rfl⟩, hb11⟩
  have hB11 := HB9.out.trans ((HB10.out.mono HB9.out.size).trans (hb11.mono (Nat.le_trans HB9.out.size HB10.out.size)))
  have HB11 := Lib.hid hB11
  clear hb11 hB11 hk10 y20 y21 y22 y23 y24 y25 y26 y27
  obtain ⟨hc1, hc2, _, _⟩ := HC.out
  clear HC HE HB10 HB9 NN HSC HP
  by_cases q1 : asked ≤ lock
  · by_cases q2 : 2 ≤ ver % 4294967296
    · obtain rfl : c1 = 0 := by rw [hc1, if_pos ⟨q1, q2⟩]
      obtain rfl : c2 = 0 := by rw [hc2, if_pos ⟨by omega, q2⟩]
      clear hc1 hc2
      go_wp2_with fail
      go_ret
      exact ⟨rfl, HB11.out⟩
    · obtain rfl : c1 = 58 := by rw [hc1, if_neg (fun h => q2 h.2)]
      have q3 : decide ((2 : Int) ≤ ver) = false := by simp; omega
      clear hc1 hc2
      go_wp2_with fail
      go_ret
      exact ⟨rfl, HB11.out⟩
  · obtain rfl : c1 = 58 := by rw [hc1, if_neg (fun h => q1 h.1)]
    clear hc1 hc2
    go_wp2_with fail
    go_ret
    exact ⟨rfl, HB11.out⟩
#print axioms law_seconds
end Go.Proofs.YtbnjggklinickaaGreatDoorR

import Derived.Test.YtaohcejbjeaemaaGreatDoorJLast
import Derived.Deep.Cut
namespace Go.Proofs.YtaohcejbjeaemaaGreatDoor
open Go Go.RowKit

/-- The one input, as the law makes it. -/
def prevL : List Value := hash0 ++ [.int .u32 0]
abbrev in0 (sq : Int) : List Value := hash0 ++ [.int .u32 0, .slice none 0 0, .slice none 0 0, .int .u32 sq]

theorem rangeAt_whole {w : World} {b : Nat} {t : TypeId} {fr : Nat × Nat} {cs : List Value} (hb : w.heap[b]? = some (.cells cs.toArray t fr)) : w.rangeAt b 0 cs := fun j v hv => by
  rw [Nat.zero_add, cell_of_row w b j _ t fr hb]
  simpa using hv

set_option linter.unusedSimpArgs false in
set_option maxHeartbeats 4000000 in
set_option maxRecDepth 100000 in
theorem txOf_any {w : World} {gi gk go gok : Nat} {ver lock sq : Int} (hin : w.heap[gi]? = some (.cells (in0 sq).toArray 57 (0, 0))) (hout : w.heap[go]? = some (.cells #[.int .i64 1, .slice none 0 0] 59 (0, 0))) :
    Calls Tryz.prog 23 #[.agg #[.int .i32 ver, .slice (some ⟨gi, 0, none⟩) 1 gk, .slice (some ⟨go, 0, none⟩) 1 gok, .int .u32 lock]] w fun e w' =>
      ∃ (m tx ti txc : Nat) (xo : Option Addr) (no co : Nat) (sp : Option Addr) (sk : Nat), e = .returned (.pointer (some ⟨m, 0, none⟩)) ∧ Below w.heap.size w w' ∧
        w'.cell? ⟨m, 0, none⟩ = some (.int .i32 ver) ∧ w'.cell? ⟨m, 1, none⟩ = some (.slice (some ⟨tx, 0, none⟩) 1 txc) ∧ w'.cell? ⟨m, 2, none⟩ = some (.slice xo no co) ∧ w'.cell? ⟨m, 3, none⟩ = some (.int .u32 lock) ∧
        w'.cell? ⟨tx, 0, none⟩ = some (.pointer (some ⟨ti, 0, none⟩)) ∧ w'.cell? ⟨ti, 33, none⟩ = some (.slice sp 0 sk) ∧ Elem (fun k => k < w'.heap.size) w' (.slice sp 0 sk) [] ∧ w'.cell? ⟨ti, 35, none⟩ = some (.int .u32 sq) := by
  have lgi := lt_of_block hin
  have lgo := lt_of_block hout
  have HI := Lib.hid hin
  have HO := Lib.hid hout
  clear hin hout
  go_enter Tryz.func23, Tryz.ntmps23
  go_wp2_with fail
  obtain ⟨w1, hw1⟩ : ∃ w1, w1 = (w.alloc (.cells #[.int .i32 ver, .slice (some ⟨gi, 0, none⟩) 1 gk, .slice (some ⟨go, 0, none⟩) 1 gok, .int .u32 lock] 39)).alloc (.cells #[.int .i32 ver, .slice none 0 0, .slice none 0 0, .int .u32 lock] 78) := ⟨_, rfl⟩
  rw [← hw1]
  have ht1 : w1.heap[w.heap.size]? = some (.cells #[.int .i32 ver, .slice (some ⟨gi, 0, none⟩) 1 gk, .slice (some ⟨go, 0, none⟩) 1 gok, .int .u32 lock] 39 (0, 0)) := by rw [hw1]; exact block_alloc (block_new _ _) _
  have hm1 : w1.heap[w.heap.size + 1]? = some (.cells #[.int .i32 ver, .slice none 0 0, .slice none 0 0, .int .u32 lock] 78 (0, 0)) := by rw [hw1]; exact block_new_at _ _ _ (by simp)
  have hk1 : Below w.heap.size w w1 := by rw [hw1]; exact ((Below.refl _ _).alloc (Nat.le_refl _) _).alloc (by simp) _
  have hs1 : w1.heap.size = w.heap.size + 2 := by rw [hw1]; simp
  have t1 : w1.cell? ⟨w.heap.size, 1, none⟩ = some (.slice (some ⟨gi, 0, none⟩) 1 gk) := by rw [cell_at ht1]; rfl
  have hr1 : w1.rangeAt gi 0 (in0 sq) := rangeAt_whole ((hk1.block gi lgi).trans HI.out)
  have HT1 := Lib.hid ht1
  have HM1 := Lib.hid hm1
  have HK1 := Lib.hid hk1
  have HS1 := Lib.hid hs1
  have HR1 := Lib.hid hr1
  clear hw1 ht1 hm1 hk1 hs1 hr1
  refine wp_loop_rounds 2 ?_
  rw [rounds_succ]
  go_upto_region 5 with (fail)
  iterate 13 (first | go_values | go_skip | go_guarded | go_step | go_upon)
  refine wpList_load_mid rfl 57 _ rfl gi 0 rfl (in0 sq) _ HR1.out Tryz.underlying57 rfl (by kernel_rfl) ?_
  iterate 3 (first | go_values | go_skip | go_guarded | go_step | go_upon)
  refine wpList_store_at rfl 57 _ _ rfl _ rfl _ (in0 sq).toArray rfl rfl rfl (by kernel_rfl) (by simp [Value.oneCell']) ?_
  have lmx : w.heap.size + 1 < w1.heap.size := lt_of_block HM1.out
  generalize hb5 : w1.heap.size = b5 at lmx
  obtain ⟨w2, hw2⟩ : ∃ w2, w2 = w1.alloc (.cells (in0 sq).toArray 57) := ⟨_, rfl⟩
  rw [← hw2]
  have hi2 : w2.heap[b5]? = some (.cells (in0 sq).toArray 57 (0, 0)) := by rw [hw2]; exact block_new_at _ _ _ hb5
  have hk2 : Below w1.heap.size w1 w2 := by rw [hw2]; exact (Below.refl _ _).alloc (Nat.le_refl _) _
  have hm2 := (hk2.block _ (by rw [hb5]; exact lmx)).trans HM1.out
  have hlb2 : b5 < w2.heap.size := lt_of_block hi2
  have hlm2 : w.heap.size + 1 < w2.heap.size := lt_of_block hm2
  have hne5 : b5 ≠ w.heap.size + 1 := Nat.ne_of_gt lmx
  have HK2 := Lib.hid hk2
  have HB5 := Lib.hid hb5
  have HS2 := Lib.hid (And.intro hi2 hm2)
  clear hw2 hi2 hk2 hm2 hb5 t1
  go_wp2_with fail
  have hS2 := HS2.out
  refine wp_region_noPanic ?_
  refine wp_region_held_last (S := (fun w' => w'.heap[b5]? = some (.cells (in0 sq).toArray 57 (0, 0)) ∧ w'.heap[w.heap.size + 1]? = some (.cells #[.int .i32 ver, .slice none 0 0, .slice none 0 0, .int .u32 lock] 78 (0, 0)))) _ (by rfl) (by kernel_rfl) (by kernel_rfl) ?_
  simp only [List.dropLast_cons_cons, List.dropLast_singleton, List.length_cons, List.length_nil, Nat.zero_add, Nat.reduceAdd]
  refine wpAnyH_take (i := 0) (v := ?vA_0) rfl (by kernel_rfl) (by kernel_rfl) (by kernel_rfl) (fun _ _ _ h => h) (Or.inl ⟨by rfl, ?hyA_0⟩) hS2 ?rA_0
  case hyA_0 => (intro w' hSw; go_simp; with_reducible rfl)
  try simp only [Act.put, List.setIfInBounds_toArray, List.set_cons_zero, List.set_cons_succ]
  refine wpAnyH_take (i := 1) (v := ?vA_1) rfl (by kernel_rfl) (by kernel_rfl) (by kernel_rfl) (fun _ _ _ h => h) (Or.inl ⟨by rfl, ?hyA_1⟩) hS2 ?rA_1
  case hyA_1 => (intro w' hSw; go_simp; with_reducible rfl)
  try simp only [Act.put, List.setIfInBounds_toArray, List.set_cons_zero, List.set_cons_succ]
  refine wpAnyH_take (i := 2) (v := ?vA_2) rfl (by kernel_rfl) (by kernel_rfl) (by kernel_rfl) (fun _ _ _ h => h) (Or.inl ⟨by rfl, ?hyA_2⟩) hS2 ?rA_2
  case hyA_2 => (intro w' hSw; go_simp; with_reducible rfl)
  try simp only [Act.put, List.setIfInBounds_toArray, List.set_cons_zero, List.set_cons_succ]
  refine wpAnyH_take (i := 3) (v := ?vA_3) rfl (by kernel_rfl) (by kernel_rfl) (by kernel_rfl) (fun _ _ _ h => h) (Or.inl ⟨by rfl, ?hyA_3⟩) hS2 ?rA_3
  case hyA_3 => (intro w' hSw; go_simp; with_reducible rfl)
  try simp only [Act.put, List.setIfInBounds_toArray, List.set_cons_zero, List.set_cons_succ]
  refine wpAnyH_take (i := 4) (v := ?vA_4) rfl (by kernel_rfl) (by kernel_rfl) (by kernel_rfl) (fun _ _ _ h => h) (Or.inl ⟨by rfl, ?hyA_4⟩) hS2 ?rA_4
  case hyA_4 => (intro w' hSw; have hc := (show w'.cell? ⟨w.heap.size + 1, 1, none⟩ = some (.slice none 0 0) from by rw [cell_at hSw.2]; rfl); go_simp; with_reducible rfl)
  try simp only [Act.put, List.setIfInBounds_toArray, List.set_cons_zero, List.set_cons_succ]
  refine wpAnyH_take (i := 5) (v := ?vA_5) rfl (by kernel_rfl) (by kernel_rfl) (by kernel_rfl) (fun _ _ _ h => h) (Or.inl ⟨by rfl, ?hyA_5⟩) hS2 ?rA_5
  case hyA_5 => (intro w' hSw; go_simp; with_reducible rfl)
  try simp only [Act.put, List.setIfInBounds_toArray, List.set_cons_zero, List.set_cons_succ]
  refine wpAnyH_take (i := 6) (v := _) rfl (by kernel_rfl) (by kernel_rfl) (by kernel_rfl) (fun _ _ _ h => h) (yieldsIf_load_mid (by rfl) 55 _ rfl b5 0 rfl prevL _ (fun w' hSw => rangeAt_head (ds := [.slice none 0 0, .slice none 0 0, .int .u32 sq]) hSw.1) Tryz.underlying55 rfl (by kernel_rfl)) hS2 ?_
  try simp only [Act.put, List.setIfInBounds_toArray, List.set_cons_zero, List.set_cons_succ]
  refine wpAnyH_take (i := 8) (v := ?vA_8) rfl (by kernel_rfl) (by kernel_rfl) (by kernel_rfl) (fun _ _ _ h => h) (Or.inl ⟨by rfl, ?hyA_8⟩) hS2 ?rA_8
  case hyA_8 => (intro w' hSw; go_simp; with_reducible rfl)
  try simp only [Act.put, List.setIfInBounds_toArray, List.set_cons_zero, List.set_cons_succ]
  refine wpAnyH_take (i := 9) (v := ?vA_9) rfl (by kernel_rfl) (by kernel_rfl) (by kernel_rfl) (fun _ _ _ h => h) (Or.inl ⟨by rfl, ?hyA_9⟩) hS2 ?rA_9
  case hyA_9 => (intro w' hSw; have hc := (show w'.cell? ⟨b5, 33, none⟩ = some (.slice none 0 0) from by rw [cell_at hSw.1]; rfl); go_simp; with_reducible rfl)
  try simp only [Act.put, List.setIfInBounds_toArray, List.set_cons_zero, List.set_cons_succ]
  refine wpAnyH_take (i := 11) (v := ?vA_11) rfl (by kernel_rfl) (by kernel_rfl) (by kernel_rfl) (fun _ _ _ h => h) (Or.inl ⟨by rfl, ?hyA_11⟩) hS2 ?rA_11
  case hyA_11 => (intro w' hSw; go_simp; with_reducible rfl)
  try simp only [Act.put, List.setIfInBounds_toArray, List.set_cons_zero, List.set_cons_succ]
  refine wpAnyH_take (i := 12) (v := ?vA_12) rfl (by kernel_rfl) (by kernel_rfl) (by kernel_rfl) (fun _ _ _ h => h) (Or.inl ⟨by rfl, ?hyA_12⟩) hS2 ?rA_12
  case hyA_12 => (intro w' hSw; have hc := (show w'.cell? ⟨b5, 34, none⟩ = some (.slice none 0 0) from by rw [cell_at hSw.1]; rfl); go_simp; with_reducible rfl)
  try simp only [Act.put, List.setIfInBounds_toArray, List.set_cons_zero, List.set_cons_succ]
  refine wpAnyH_take (i := 14) (v := ?vA_14) rfl (by kernel_rfl) (by kernel_rfl) (by kernel_rfl) (fun _ _ _ h => h) (Or.inl ⟨by rfl, ?hyA_14⟩) hS2 ?rA_14
  case hyA_14 => (intro w' hSw; go_simp; with_reducible rfl)
  try simp only [Act.put, List.setIfInBounds_toArray, List.set_cons_zero, List.set_cons_succ]
  refine wpAnyH_take (i := 15) (v := ?vA_15) rfl (by kernel_rfl) (by kernel_rfl) (by kernel_rfl) (fun _ _ _ h => h) (Or.inl ⟨by rfl, ?hyA_15⟩) hS2 ?rA_15
  case hyA_15 => (intro w' hSw; have hc := (show w'.cell? ⟨b5, 35, none⟩ = some (.int .u32 sq) from by rw [cell_at hSw.1]; rfl); go_simp; with_reducible rfl)
  try simp only [Act.put, List.setIfInBounds_toArray, List.set_cons_zero, List.set_cons_succ]
  refine wpAnyH_ready (rs := [7]) (by kernel_rfl) (by simp) ?_
  refine AllReadyH.cons rfl (fun K1 hK1 => ?_) AllReadyH.nil
  go_simp
  refine (outPoint_any _).mono ?_
  rintro e w3 ⟨rfl, hb3⟩
  refine hK1.out _ _ ⟨(hb3.block b5 hlb2).trans hS2.1, (hb3.block _ hlm2).trans hS2.2⟩ (fun hS3 => ?_)
  have hlb3 := Nat.lt_of_lt_of_le hlb2 hb3.size
  have hlm3 := Nat.lt_of_lt_of_le hlm2 hb3.size
  clear hK1 K1
  try simp only [Act.put, List.setIfInBounds_toArray, List.set_cons_zero, List.set_cons_succ]
  refine wpAnyH_ready (rs := [10]) (by kernel_rfl) (by simp) ?_
  refine AllReadyH.cons rfl (fun K2 hK2 => ?_) AllReadyH.nil
  go_simp
  refine (copied_any (Elem.nil (fun _ => False) _) (fun _ h => h.elim) (Nat.zero_le _)).mono ?_
  rintro e w4 ⟨v, rfl, hb4, he4⟩
  obtain ⟨vp, vc, rfl, he4⟩ := he4
  refine hK2.out _ _ ⟨(hb4.block b5 hlb3).trans hS3.1, (hb4.block _ hlm3).trans hS3.2⟩ (fun hS4 => ?_)
  have hlb4 := Nat.lt_of_lt_of_le hlb3 hb4.size
  have hlm4 := Nat.lt_of_lt_of_le hlm3 hb4.size
  clear hK2 K2
  try simp only [Act.put, List.setIfInBounds_toArray, List.set_cons_zero, List.set_cons_succ]
  refine wpAnyH_ready (rs := [13]) (by kernel_rfl) (by simp) ?_
  refine AllReadyH.cons rfl (fun K3 hK3 => ?_) AllReadyH.nil
  go_simp
  refine (copies_zero none 0 _).mono ?_
  rintro e w5 ⟨rfl, rfl⟩
  refine hK3.out _ _ hS4 (fun hS5 => ?_)
  clear hK3 K3
  try simp only [Act.put, List.setIfInBounds_toArray, List.set_cons_zero, List.set_cons_succ]
  refine wpAnyH_take (i := 16) (v := ?vA_16) rfl (by kernel_rfl) (by kernel_rfl) (by kernel_rfl) (fun _ _ _ h => h) (Or.inl ⟨by rfl, ?hyA_16⟩) hS4 ?rA_16
  case hyA_16 => (intro w' hSw; go_simp; with_reducible rfl)
  try simp only [Act.put, List.setIfInBounds_toArray, List.set_cons_zero, List.set_cons_succ]
  refine wpAnyH_ready (rs := [17]) (by kernel_rfl) (by simp) ?_
  refine AllReadyH.cons rfl (fun K4 hK4 => ?_) AllReadyH.nil
  go_simp
  refine hK4.out _ _ ⟨(Below.heap_alloc _ _ _ hlb4).trans hS4.1, (Below.heap_alloc _ _ _ hlm4).trans hS4.2⟩ (fun hS6 => ?_)
  clear hK4 K4
  try simp only [Act.put, List.setIfInBounds_toArray, List.set_cons_zero, List.set_cons_succ]
  refine wpAnyH_ready (rs := [18]) (by kernel_rfl) (by simp) ?_
  refine AllReadyH.cons rfl (fun K5 hK5 => ?_) AllReadyH.nil
  go_simp
  refine hK5.out _ _ ⟨(Below.heap_alloc _ _ _ (by simp; omega)).trans hS6.1, (Below.heap_alloc _ _ _ (by simp; omega)).trans hS6.2⟩ (fun hS7 => ?_)
  clear hK5 K5
  try simp only [Act.put, List.setIfInBounds_toArray, List.set_cons_zero, List.set_cons_succ]
  refine wpAnyH_ready (rs := [19]) (by kernel_rfl) (by simp) ?_
  refine AllReadyH.cons rfl (fun K6 hK6 => ?_) AllReadyH.nil
  go_wp2_with fail
  generalize Question.cut _ _ = cc
  refine hK6.out _ _ ⟨(Below.heap_alloc _ _ _ (by simp; omega)).trans hS7.1, (Below.heap_alloc _ _ _ (by simp; omega)).trans hS7.2⟩ (fun hS8 => ?_)
  generalize hw6 : World.drew (World.alloc (World.alloc (World.alloc w4 _) _) _) = w6 at hS8 ⊢
  have u33 : w6.cell? ⟨w4.heap.size, 33, none⟩ = some (.slice vp 0 vc) := by rw [← hw6, cell_at (block_drew (block_alloc (block_alloc (block_new _ _) _) _))]; rfl
  have u35 : w6.cell? ⟨w4.heap.size, 35, none⟩ = some (.int .u32 sq) := by rw [← hw6, cell_at (block_drew (block_alloc (block_alloc (block_new _ _) _) _))]; rfl
  have utx : w6.cell? ⟨w4.heap.size + 1 + 1, 0, none⟩ = some (.pointer (some ⟨w4.heap.size, 0, none⟩)) := by rw [← hw6]; exact (World.cell?_alloc_at _ _ _ _ (by simp)).trans (by rw [Array.getElem?_append_left (by simp)]; rfl)
  have hB6 : Below w4.heap.size w4 w6 := by rw [← hw6]; exact ((((Below.refl _ _).alloc (Nat.le_refl _) _).alloc (by simp) _).alloc (by simp; omega) _).drew
  clear hw6
  clear hK6 K6
  try simp only [Act.put, List.setIfInBounds_toArray, List.set_cons_zero, List.set_cons_succ]
  refine wpAnyH_take (i := 20) (v := ?vA_20) rfl (by kernel_rfl) (by kernel_rfl) (by kernel_rfl) (fun _ _ _ h => h) (Or.inl ⟨by rfl, ?hyA_20⟩) hS8 ?rA_20
  case hyA_20 => (intro w' hSw; go_simp; with_reducible rfl)
  try simp only [Act.put, List.setIfInBounds_toArray, List.set_cons_zero, List.set_cons_succ]
  refine wpAnyH_take (i := 21) (v := ?vA_21) rfl (by kernel_rfl) (by kernel_rfl) (by kernel_rfl) (fun _ _ _ h => h) (Or.inl ⟨by rfl, ?hyA_21⟩) hS8 ?rA_21
  case hyA_21 => (intro w' hSw; go_simp; with_reducible rfl)
  try simp only [Act.put, List.setIfInBounds_toArray, List.set_cons_zero, List.set_cons_succ]
  refine wpAnyH_done (by kernel_rfl) ?_ _
  show Oper.wp _ _ _ _ _ _
  have k1 : w6.cell? ⟨w.heap.size + 1, 1, none⟩ = some (.slice none 0 0) := by rw [cell_at hS8.2]; rfl
  have kf : w6.frozen? ⟨w.heap.size + 1, 1, none⟩ = false := free_at hS8.2 1
  go_simp
  refine NoPanic.normal ?_
  have z1 : w1.heap.size ≤ w2.heap.size := HK2.out.size
  have z2 : w2.heap.size ≤ w3.heap.size := hb3.size
  have z3 : w3.heap.size ≤ w4.heap.size := hb4.size
  have z4 : w4.heap.size ≤ w6.heap.size := hB6.size
  have z0 := HS1.out
  have hB16 : Below w1.heap.size w1 w6 := HK2.out.trans (((Below.refl _ _).drew).trans ((hb3.mono z1).trans ((hb4.mono (Nat.le_trans z1 z2)).trans (hB6.mono (Nat.le_trans z1 (Nat.le_trans z2 z3))))))
  have hB06 : Below w.heap.size w w6 := HK1.out.trans (hB16.mono (by omega))
  have ht6 := (hB16.block w.heap.size (by omega)).trans HT1.out
  have ho6 := (hB06.block go lgo).trans HO.out
  obtain ⟨w7, hw7⟩ : ∃ w7, w7 = w6.setCell ⟨w.heap.size + 1, 1, none⟩ (.slice (some ⟨w4.heap.size + 1 + 1, 0, none⟩) 1 cc) := ⟨_, rfl⟩
  rw [← hw7]
  have hm7 : w7.heap[w.heap.size + 1]? = some (.cells #[.int .i32 ver, .slice (some ⟨w4.heap.size + 1 + 1, 0, none⟩) 1 cc, .slice none 0 0, .int .u32 lock] 78 (0, 0)) := by rw [hw7]; exact block_setCell hS8.2 1 _
  have ht7 : w7.heap[w.heap.size]? = some (.cells #[.int .i32 ver, .slice (some ⟨gi, 0, none⟩) 1 gk, .slice (some ⟨go, 0, none⟩) 1 gok, .int .u32 lock] 39 (0, 0)) := by rw [hw7]; exact block_setCell_other ht6 _ _ (by simp)
  have ho7 : w7.heap[go]? = some (.cells #[.int .i64 1, .slice none 0 0] 59 (0, 0)) := by rw [hw7]; exact block_setCell_other ho6 _ _ (by first | (simp; done) | (simp; omega))
  have v33 : w7.cell? ⟨w4.heap.size, 33, none⟩ = some (.slice vp 0 vc) := by rw [hw7, World.cell?_setCell_other _ _ _ _ (by first | (simp; done) | (simp; omega))]; exact u33
  have v35 : w7.cell? ⟨w4.heap.size, 35, none⟩ = some (.int .u32 sq) := by rw [hw7, World.cell?_setCell_other _ _ _ _ (by first | (simp; done) | (simp; omega))]; exact u35
  have vtx : w7.cell? ⟨w4.heap.size + 1 + 1, 0, none⟩ = some (.pointer (some ⟨w4.heap.size, 0, none⟩)) := by rw [hw7, World.cell?_setCell_other _ _ _ _ (by first | (simp; done) | (simp; omega))]; exact utx
  have hB07 : Below w.heap.size w w7 := by rw [hw7]; exact Kept.below ((kept_of_below hB06).setCell (p := ⟨w.heap.size + 1, 1, none⟩) (by simp) _)
  have hE7 : Elem (fun k => k < w7.heap.size) w7 (.slice vp 0 vc) [] := ⟨vp, vc, rfl, he4.1, he4.2.1, he4.2.2.1, he4.2.2.2.1, fun h => absurd h (by simp)⟩
  have z5 : w.heap.size + 1 < w4.heap.size := by omega
  have HV := Lib.hid (And.intro v33 (And.intro v35 (And.intro vtx (And.intro hB07 (And.intro hE7 z5)))))
  have HS7 := Lib.hid (And.intro ht7 (And.intro hm7 ho7))
  have t1_7 : w7.cell? ⟨w.heap.size, 1, none⟩ = some (.slice (some ⟨gi, 0, none⟩) 1 gk) := by rw [cell_at ht7]; rfl
  have t2_7 : w7.cell? ⟨w.heap.size, 2, none⟩ = some (.slice (some ⟨go, 0, none⟩) 1 gok) := by rw [cell_at ht7]; rfl
  generalize w4.heap.size = h4 at *
  clear hw7 hm7 ht7 ho7 v33 v35 vtx hB07 hE7 hB06 hB16 ht6 ho6 z0 z1 z2 z3 z4 z5 k1 kf hS8 hS7 hS6 hS5 hS4 hS3 hS2 u33 u35 utx hB6 hb3 hb4 he4 hlb2 hlb3 hlb4 hlm2 hlm3 hlm4 hne5 lmx HK2 HB5 HS2 HR1 HK1 HT1 HM1 HI HO
  go_wp2_with fail
  rw [rounds_succ]
  go_wp2_with fail
  refine wp_loop_rounds 2 ?_
  rw [rounds_succ]
  go_wp2_with fail
  have hT7 := HS7.out
  have l7 : w.heap.size + 1 < w7.heap.size := lt_of_block hT7.2.1
  have l7t : w.heap.size < w7.heap.size := lt_of_block hT7.1
  have l7o : go < w7.heap.size := lt_of_block hT7.2.2
  refine wp_region_noPanic ?_
  refine wp_region_held_last (S := (fun w' => w'.heap[w.heap.size]? = some (.cells #[.int .i32 ver, .slice (some ⟨gi, 0, none⟩) 1 gk, .slice (some ⟨go, 0, none⟩) 1 gok, .int .u32 lock] 39 (0, 0)) ∧ w'.heap[w.heap.size + 1]? = some (.cells #[.int .i32 ver, .slice (some ⟨h4 + 1 + 1, 0, none⟩) 1 cc, .slice none 0 0, .int .u32 lock] 78 (0, 0)) ∧ w'.heap[go]? = some (.cells #[.int .i64 1, .slice none 0 0] 59 (0, 0)))) _ (by rfl) (by kernel_rfl) (by kernel_rfl) ?_
  simp only [List.dropLast_cons_cons, List.dropLast_singleton, List.length_cons, List.length_nil, Nat.zero_add, Nat.reduceAdd]
  refine wpAnyH_take (i := 0) (v := ?vB_0) rfl (by kernel_rfl) (by kernel_rfl) (by kernel_rfl) (fun _ _ _ h => h) (Or.inl ⟨by rfl, ?hyB_0⟩) hT7 ?rB_0
  case hyB_0 => (intro w' hSw; go_simp; with_reducible rfl)
  try simp only [Act.put, List.setIfInBounds_toArray, List.set_cons_zero, List.set_cons_succ]
  refine wpAnyH_take (i := 1) (v := ?vB_1) rfl (by kernel_rfl) (by kernel_rfl) (by kernel_rfl) (fun _ _ _ h => h) (Or.inl ⟨by rfl, ?hyB_1⟩) hT7 ?rB_1
  case hyB_1 => (intro w' hSw; go_simp; with_reducible rfl)
  try simp only [Act.put, List.setIfInBounds_toArray, List.set_cons_zero, List.set_cons_succ]
  refine wpAnyH_take (i := 2) (v := ?vB_2) rfl (by kernel_rfl) (by kernel_rfl) (by kernel_rfl) (fun _ _ _ h => h) (Or.inl ⟨by rfl, ?hyB_2⟩) hT7 ?rB_2
  case hyB_2 => (intro w' hSw; go_simp; with_reducible rfl)
  try simp only [Act.put, List.setIfInBounds_toArray, List.set_cons_zero, List.set_cons_succ]
  refine wpAnyH_take (i := 3) (v := ?vB_3) rfl (by kernel_rfl) (by kernel_rfl) (by kernel_rfl) (fun _ _ _ h => h) (Or.inl ⟨by rfl, ?hyB_3⟩) hT7 ?rB_3
  case hyB_3 => (intro w' hSw; go_simp; with_reducible rfl)
  try simp only [Act.put, List.setIfInBounds_toArray, List.set_cons_zero, List.set_cons_succ]
  refine wpAnyH_take (i := 4) (v := ?vB_4) rfl (by kernel_rfl) (by kernel_rfl) (by kernel_rfl) (fun _ _ _ h => h) (Or.inl ⟨by rfl, ?hyB_4⟩) hT7 ?rB_4
  case hyB_4 => (intro w' hSw; have hc := (show w'.cell? ⟨w.heap.size + 1, 2, none⟩ = some (.slice none 0 0) from by rw [cell_at hSw.2.1]; rfl); go_simp; with_reducible rfl)
  try simp only [Act.put, List.setIfInBounds_toArray, List.set_cons_zero, List.set_cons_succ]
  refine wpAnyH_take (i := 5) (v := ?vB_5) rfl (by kernel_rfl) (by kernel_rfl) (by kernel_rfl) (fun _ _ _ h => h) (Or.inl ⟨by rfl, ?hyB_5⟩) hT7 ?rB_5
  case hyB_5 => (intro w' hSw; go_simp; with_reducible rfl)
  try simp only [Act.put, List.setIfInBounds_toArray, List.set_cons_zero, List.set_cons_succ]
  refine wpAnyH_take (i := 6) (v := ?vB_6) rfl (by kernel_rfl) (by kernel_rfl) (by kernel_rfl) (fun _ _ _ h => h) (Or.inl ⟨by rfl, ?hyB_6⟩) hT7 ?rB_6
  case hyB_6 => (intro w' hSw; have hc := (show w'.cell? ⟨w.heap.size, 2, none⟩ = some (.slice (some ⟨go, 0, none⟩) 1 gok) from by rw [cell_at hSw.1]; rfl); go_simp; with_reducible rfl)
  try simp only [Act.put, List.setIfInBounds_toArray, List.set_cons_zero, List.set_cons_succ]
  refine wpAnyH_take (i := 7) (v := ?vB_7) rfl (by kernel_rfl) (by kernel_rfl) (by kernel_rfl) (fun _ _ _ h => h) (Or.inl ⟨by rfl, ?hyB_7⟩) hT7 ?rB_7
  case hyB_7 => (intro w' hSw; go_simp; with_reducible rfl)
  try simp only [Act.put, List.setIfInBounds_toArray, List.set_cons_zero, List.set_cons_succ]
  refine wpAnyH_take (i := 8) (v := ?vB_8) rfl (by kernel_rfl) (by kernel_rfl) (by kernel_rfl) (fun _ _ _ h => h) (Or.inl ⟨by rfl, ?hyB_8⟩) hT7 ?rB_8
  case hyB_8 => (intro w' hSw; go_simp; with_reducible rfl)
  try simp only [Act.put, List.setIfInBounds_toArray, List.set_cons_zero, List.set_cons_succ]
  refine wpAnyH_take (i := 9) (v := ?vB_9) rfl (by kernel_rfl) (by kernel_rfl) (by kernel_rfl) (fun _ _ _ h => h) (Or.inl ⟨by rfl, ?hyB_9⟩) hT7 ?rB_9
  case hyB_9 => (intro w' hSw; go_simp; with_reducible rfl)
  try simp only [Act.put, List.setIfInBounds_toArray, List.set_cons_zero, List.set_cons_succ]
  refine wpAnyH_take (i := 10) (v := ?vB_10) rfl (by kernel_rfl) (by kernel_rfl) (by kernel_rfl) (fun _ _ _ h => h) (Or.inl ⟨by rfl, ?hyB_10⟩) hT7 ?rB_10
  case hyB_10 => (intro w' hSw; have hc := (show w'.cell? ⟨go, 0, none⟩ = some (.int .i64 1) from by rw [cell_at hSw.2.2]; rfl); go_simp; with_reducible rfl)
  try simp only [Act.put, List.setIfInBounds_toArray, List.set_cons_zero, List.set_cons_succ]
  refine wpAnyH_take (i := 11) (v := ?vB_11) rfl (by kernel_rfl) (by kernel_rfl) (by kernel_rfl) (fun _ _ _ h => h) (Or.inl ⟨by rfl, ?hyB_11⟩) hT7 ?rB_11
  case hyB_11 => (intro w' hSw; go_simp; with_reducible rfl)
  try simp only [Act.put, List.setIfInBounds_toArray, List.set_cons_zero, List.set_cons_succ]
  refine wpAnyH_take (i := 12) (v := ?vB_12) rfl (by kernel_rfl) (by kernel_rfl) (by kernel_rfl) (fun _ _ _ h => h) (Or.inl ⟨by rfl, ?hyB_12⟩) hT7 ?rB_12
  case hyB_12 => (intro w' hSw; have hc := (show w'.cell? ⟨w.heap.size, 2, none⟩ = some (.slice (some ⟨go, 0, none⟩) 1 gok) from by rw [cell_at hSw.1]; rfl); go_simp; with_reducible rfl)
  try simp only [Act.put, List.setIfInBounds_toArray, List.set_cons_zero, List.set_cons_succ]
  refine wpAnyH_take (i := 13) (v := ?vB_13) rfl (by kernel_rfl) (by kernel_rfl) (by kernel_rfl) (fun _ _ _ h => h) (Or.inl ⟨by rfl, ?hyB_13⟩) hT7 ?rB_13
  case hyB_13 => (intro w' hSw; go_simp; with_reducible rfl)
  try simp only [Act.put, List.setIfInBounds_toArray, List.set_cons_zero, List.set_cons_succ]
  refine wpAnyH_take (i := 14) (v := ?vB_14) rfl (by kernel_rfl) (by kernel_rfl) (by kernel_rfl) (fun _ _ _ h => h) (Or.inl ⟨by rfl, ?hyB_14⟩) hT7 ?rB_14
  case hyB_14 => (intro w' hSw; go_simp; with_reducible rfl)
  try simp only [Act.put, List.setIfInBounds_toArray, List.set_cons_zero, List.set_cons_succ]
  refine wpAnyH_take (i := 15) (v := ?vB_15) rfl (by kernel_rfl) (by kernel_rfl) (by kernel_rfl) (fun _ _ _ h => h) (Or.inl ⟨by rfl, ?hyB_15⟩) hT7 ?rB_15
  case hyB_15 => (intro w' hSw; go_simp; with_reducible rfl)
  try simp only [Act.put, List.setIfInBounds_toArray, List.set_cons_zero, List.set_cons_succ]
  refine wpAnyH_take (i := 16) (v := ?vB_16) rfl (by kernel_rfl) (by kernel_rfl) (by kernel_rfl) (fun _ _ _ h => h) (Or.inl ⟨by rfl, ?hyB_16⟩) hT7 ?rB_16
  case hyB_16 => (intro w' hSw; have hc := (show w'.cell? ⟨go, 1, none⟩ = some (.slice none 0 0) from by rw [cell_at hSw.2.2]; rfl); go_simp; with_reducible rfl)
  try simp only [Act.put, List.setIfInBounds_toArray, List.set_cons_zero, List.set_cons_succ]
  refine wpAnyH_ready (rs := [17]) (by kernel_rfl) (by simp) ?_
  refine AllReadyH.cons rfl (fun N1 hN1 => ?_) AllReadyH.nil
  go_simp
  refine (copied_any (Elem.nil (fun _ => False) _) (fun _ h => h.elim) (Nat.zero_le _)).mono ?_
  rintro e w8 ⟨v, rfl, hb8, he8⟩
  obtain ⟨vp8, vc8, rfl, he8⟩ := he8
  refine hN1.out _ _ ⟨(hb8.block _ l7t).trans hT7.1, (hb8.block _ l7).trans hT7.2.1, (hb8.block _ l7o).trans hT7.2.2⟩ (fun hT8 => ?_)
  have l8 := Nat.lt_of_lt_of_le l7 hb8.size
  have l8t := Nat.lt_of_lt_of_le l7t hb8.size
  have l8o := Nat.lt_of_lt_of_le l7o hb8.size
  clear hN1 N1
  try simp only [Act.put, List.setIfInBounds_toArray, List.set_cons_zero, List.set_cons_succ]
  refine wpAnyH_take (i := 18) (v := ?vB_18) rfl (by kernel_rfl) (by kernel_rfl) (by kernel_rfl) (fun _ _ _ h => h) (Or.inl ⟨by rfl, ?hyB_18⟩) hT8 ?rB_18
  case hyB_18 => (intro w' hSw; go_simp; with_reducible rfl)
  try simp only [Act.put, List.setIfInBounds_toArray, List.set_cons_zero, List.set_cons_succ]
  refine wpAnyH_ready (rs := [19]) (by kernel_rfl) (by simp) ?_
  refine AllReadyH.cons rfl (fun N2 hN2 => ?_) AllReadyH.nil
  go_simp
  refine hN2.out _ _ ⟨(Below.heap_alloc _ _ _ l8t).trans hT8.1, (Below.heap_alloc _ _ _ l8).trans hT8.2.1, (Below.heap_alloc _ _ _ l8o).trans hT8.2.2⟩ (fun hT9 => ?_)
  clear hN2 N2
  try simp only [Act.put, List.setIfInBounds_toArray, List.set_cons_zero, List.set_cons_succ]
  refine wpAnyH_ready (rs := [20]) (by kernel_rfl) (by simp) ?_
  refine AllReadyH.cons rfl (fun N3 hN3 => ?_) AllReadyH.nil
  go_simp
  refine hN3.out _ _ ⟨(Below.heap_alloc _ _ _ (by simp; omega)).trans hT9.1, (Below.heap_alloc _ _ _ (by simp; omega)).trans hT9.2.1, (Below.heap_alloc _ _ _ (by simp; omega)).trans hT9.2.2⟩ (fun hT10 => ?_)
  clear hN3 N3
  try simp only [Act.put, List.setIfInBounds_toArray, List.set_cons_zero, List.set_cons_succ]
  refine wpAnyH_ready (rs := [21]) (by kernel_rfl) (by simp) ?_
  refine AllReadyH.cons rfl (fun N4 hN4 => ?_) AllReadyH.nil
  go_wp2_with fail
  generalize Question.cut _ _ = cd
  refine hN4.out _ _ ⟨(Below.heap_alloc _ _ _ (by simp; omega)).trans hT10.1, (Below.heap_alloc _ _ _ (by simp; omega)).trans hT10.2.1, (Below.heap_alloc _ _ _ (by simp; omega)).trans hT10.2.2⟩ (fun hT11 => ?_)
  generalize hw9 : World.drew (World.alloc (World.alloc (World.alloc w8 _) _) _) = w9 at hT11 ⊢
  have hB9 : Below w8.heap.size w8 w9 := by rw [← hw9]; exact ((((Below.refl _ _).alloc (Nat.le_refl _) _).alloc (by simp) _).alloc (by simp; omega) _).drew
  clear hw9
  clear hN4 N4
  try simp only [Act.put, List.setIfInBounds_toArray, List.set_cons_zero, List.set_cons_succ]
  refine wpAnyH_take (i := 22) (v := ?vB_22) rfl (by kernel_rfl) (by kernel_rfl) (by kernel_rfl) (fun _ _ _ h => h) (Or.inl ⟨by rfl, ?hyB_22⟩) hT11 ?rB_22
  case hyB_22 => (intro w' hSw; go_simp; with_reducible rfl)
  try simp only [Act.put, List.setIfInBounds_toArray, List.set_cons_zero, List.set_cons_succ]
  refine wpAnyH_take (i := 23) (v := ?vB_23) rfl (by kernel_rfl) (by kernel_rfl) (by kernel_rfl) (fun _ _ _ h => h) (Or.inl ⟨by rfl, ?hyB_23⟩) hT11 ?rB_23
  case hyB_23 => (intro w' hSw; go_simp; with_reducible rfl)
  try simp only [Act.put, List.setIfInBounds_toArray, List.set_cons_zero, List.set_cons_succ]
  refine wpAnyH_done (by kernel_rfl) ?_ _
  show Oper.wp _ _ _ _ _ _
  have k1 : w9.cell? ⟨w.heap.size + 1, 2, none⟩ = some (.slice none 0 0) := by rw [cell_at hT11.2.1]; rfl
  have kf : w9.frozen? ⟨w.heap.size + 1, 2, none⟩ = false := free_at hT11.2.1 2
  go_simp
  refine NoPanic.normal ?_
  generalize hw10 : World.setCell w9 _ _ = w10
  have hm10 : w10.heap[w.heap.size + 1]? = some (.cells #[.int .i32 ver, .slice (some ⟨h4 + 1 + 1, 0, none⟩) 1 cc, .slice (some ⟨w8.heap.size + 1 + 1, 0, none⟩) 1 cd, .int .u32 lock] 78 (0, 0)) := by rw [← hw10]; exact block_setCell hT11.2.1 2 _
  have ht10 : w10.heap[w.heap.size]? = some (.cells #[.int .i32 ver, .slice (some ⟨gi, 0, none⟩) 1 gk, .slice (some ⟨go, 0, none⟩) 1 gok, .int .u32 lock] 39 (0, 0)) := by rw [← hw10]; exact block_setCell_other hT11.1 _ _ (by simp)
  have hk10 : Kept (fun k => k < w7.heap.size ∧ k ≠ w.heap.size + 1) w7 w10 := by
    rw [← hw10]
    refine Kept.setCell ?_ (fun h => h.2 rfl) _
    exact (((Kept.refl _ w7).drew.trans ((kept_of_below hb8).mono fun k hk => hk.1)).trans ((kept_of_below hB9).mono fun k hk => Nat.lt_of_lt_of_le hk.1 hb8.size))
  obtain ⟨v33, v35, vtx, hB07, hE7, z5⟩ := HV.out
  have q33 := (hk10.cell (p := ⟨h4, 33, none⟩) ⟨World.block_lt_of_cell? _ _ v33, Nat.ne_of_gt z5⟩).trans v33
  have q35 := (hk10.cell (p := ⟨h4, 35, none⟩) ⟨World.block_lt_of_cell? _ _ v35, Nat.ne_of_gt z5⟩).trans v35
  have qtx := (hk10.cell (p := ⟨h4 + 1 + 1, 0, none⟩) ⟨World.block_lt_of_cell? _ _ vtx, Nat.ne_of_gt (Nat.lt_of_lt_of_le z5 (Nat.le_add_right h4 2))⟩).trans vtx
  have hB10 : Below w.heap.size w w10 := hB07.trans ⟨hk10.os, hk10.tape, hk10.output, hk10.size, fun k hk => hk10.block k ⟨Nat.lt_of_lt_of_le hk hB07.size, Nat.ne_of_lt (Nat.lt_succ_of_lt hk)⟩⟩
  have hE10 : Elem (fun k => k < w10.heap.size) w10 (.slice vp 0 vc) [] := by
    obtain ⟨pp, ppc, he, h1, h2, h3, h4', h5⟩ := hE7
    exact ⟨pp, ppc, he, h1, h2, h3, h4', fun h => absurd h (by simp)⟩
  have hfin : Below w.heap.size w w10 ∧ w10.cell? ⟨w.heap.size + 1, 0, none⟩ = some (.int .i32 ver) ∧ w10.cell? ⟨w.heap.size + 1, 1, none⟩ = some (.slice (some ⟨h4 + 1 + 1, 0, none⟩) 1 cc) ∧ w10.cell? ⟨w.heap.size + 1, 2, none⟩ = some (.slice (some ⟨w8.heap.size + 1 + 1, 0, none⟩) 1 cd) ∧ w10.cell? ⟨w.heap.size + 1, 3, none⟩ = some (.int .u32 lock) ∧
      w10.cell? ⟨h4 + 1 + 1, 0, none⟩ = some (.pointer (some ⟨h4, 0, none⟩)) ∧ w10.cell? ⟨h4, 33, none⟩ = some (.slice vp 0 vc) ∧ Elem (fun k => k < w10.heap.size) w10 (.slice vp 0 vc) [] ∧ w10.cell? ⟨h4, 35, none⟩ = some (.int .u32 sq) :=
    ⟨hB10, by rw [cell_at hm10]; rfl, by rw [cell_at hm10]; rfl, by rw [cell_at hm10]; rfl, by rw [cell_at hm10]; rfl, qtx, q33, hE10, q35⟩
  have t2_10 : w10.cell? ⟨w.heap.size, 2, none⟩ = some (.slice (some ⟨go, 0, none⟩) 1 gok) := by rw [cell_at ht10]; rfl
  have HF := Lib.hid hfin
  clear hfin hB10 hE10 q33 q35 qtx hm10 ht10 hk10 v33 v35 vtx hB07 hE7 z5 hw10 k1 kf hT11 hT10 hT9 hT8 hT7 hB9 hb8 he8 l7 l7t l7o l8 l8t l8o t1_7 t2_7 HV HS7
  go_wp2_with fail
  rw [rounds_succ]
  go_wp2_with fail
  go_ret
  exact ⟨_, _, _, _, _, _, _, _, _, rfl, HF.out⟩
end Go.Proofs.YtaohcejbjeaemaaGreatDoor

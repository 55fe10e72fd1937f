import Derived.Test.YtaohcejbjeaemaaGreatDoorJShaO
namespace Go.Proofs.YtaohcejbjeaemaaGreatDoor
open Go Go.RowKit

theorem sum_start {w w2 : World} {c1 c2 : Array Value} (hw : (w.alloc (.cells c1 53)).alloc (.cells c2 341) = w2) (h1 : c1 = (List.replicate 32 (Value.int .u8 0)).toArray) (h2 : c2 = (List.replicate 72 (Value.int .u8 0)).toArray.setIfInBounds 0 (.int .u8 128)) :
    ByteBlk w2 w.heap.size 32 53 ∧ ByteBlk w2 (w.heap.size + 1) 72 341 ∧ Below w.heap.size w w2 ∧ w2.heap.size = w.heap.size + 2 := by
  subst hw
  refine ⟨ByteBlk.zero (block_alloc (block_new _ _) _) h1, ⟨c2, block_new_at _ _ _ (by simp), by rw [h2]; simp, fun i hi => ?_⟩, ((Below.refl _ _).alloc (Nat.le_refl _) _).alloc (by simp) _, by simp⟩
  rw [h2, Array.getElem?_setIfInBounds]
  split
  · exact ⟨128, by decide, by simp⟩
  · exact ⟨0, by decide, by rw [List.getElem?_toArray, List.getElem?_replicate, if_pos hi]⟩

/-- The padding's Write. -/
theorem write_padding {w : World} {b g T nx : Nat} {L : Int} (h : DigW w b nx L) (hB : ByteBlk w g 72 341) (hgb : g ≠ b) (hT : nx < 56 ∧ T + nx = 56 ∨ ¬ nx < 56 ∧ nx < 64 ∧ T + nx = 120) (ht : TableAt w) (htb : 3 ≠ b) :
    ∃ L', Calls Tryz.prog 294 #[.pointer (some ⟨b, 0, none⟩), .slice (some ⟨g, 0, none⟩) (T + 8) 72] w (WritePost b 0 L' w) := by
  obtain ⟨bs, hl, hb⟩ := hB.bytes (n := T + 8) (by omega)
  have hm : 72 ≤ maxLen := by unfold maxLen; decide
  by_cases h0 : nx = 0
  · subst h0
    have := write_many (k := 72) h hb hgb hB.lt (by omega) (by omega) (by omega) hm ht htb
    rw [hl, show (T + 8) % 64 = 0 by omega] at this
    exact ⟨_, this⟩
  · have := write_pad (k := 72) h hb hgb hB.lt (by omega) (by omega) (by omega) (by omega) hm ht htb
    rw [hl] at this
    exact ⟨_, this⟩

set_option maxHeartbeats 4000000 in
set_option maxRecDepth 100000 in
theorem checkSum_any {w : World} {b l nx : Nat} (h : DigW w b nx (l : Int)) (hl : l ≤ 520) (hnx : nx = l % 64) (ht : TableAt w) (htb : 3 ≠ b) :
    Calls Tryz.prog 296 #[.pointer (some ⟨b, 0, none⟩)] w fun e w' => ∃ c : Array Value, e = .returned (.agg c) ∧ c.size = 32 ∧ (∀ i, i < 32 → ∃ y : Int, (0 ≤ y ∧ y ≤ 255) ∧ c[i]? = some (.int .u8 y)) ∧ Kept (fun k => k < w.heap.size ∧ k ≠ b) w w' ∧ w'.cell? ⟨b, 74, none⟩ = some (.bool false) := by
  have c73 := h.c73
  have hlt := h.lt
  have hq : (l : Int) % 64 = (nx : Int) := by omega
  have hnx64 : nx < 64 := by omega
  have HD := Lib.hid h
  have HT := Lib.hid ht
  have htl : 3 < w.heap.size := by obtain ⟨y, hy⟩ := ht 0 (by decide); exact World.block_lt_of_cell? _ _ hy
  have hal : Tryz.prog.arrayLen 341 = 72 := by kernel_rfl
  have hal2 : Tryz.prog.arrayLen 53 = 32 := by kernel_rfl
  clear h ht hnx
  have two : (nx < 56 ∧ ∃ T : Nat, T + nx = 56 ∧ 56 - (nx : Int) = (T : Int)) ∨ (¬ nx < 56 ∧ ∃ T : Nat, T + nx = 120 ∧ 120 - (nx : Int) = (T : Int)) := by
    by_cases h56 : nx < 56
    · exact .inl ⟨h56, 56 - nx, by omega, by omega⟩
    · exact .inr ⟨h56, 120 - nx, by omega, by omega⟩
  rcases two with ⟨h56, T, hT, hT'⟩ | ⟨h56, T, hT, hT'⟩
  all_goals
    have i0 : (0 : Int) ≤ (T : Int) + 8 := by omega
    have i1 : (T : Int) + 8 ≤ 72 := by omega
    have i2 : (T : Int) ≤ 64 := by omega
    go_enter Tryz.func296, Tryz.ntmps296
    go_wp2_with fail
    generalize hw2 : World.alloc (World.alloc w _) _ = w2
    obtain ⟨r1, r2, r3, r4⟩ := sum_start hw2 (by kernel_rfl) (by kernel_rfl)
    obtain ⟨c, b1, b2, b3⟩ := r2
    refine (put64_over (n := 8) (k := 72 - T) b1 (Nat.le_refl _) (by unfold maxLen; decide) (fun i hi => by obtain ⟨y, _, hy⟩ := b3 (T + i) (by omega); exact ⟨y, hy⟩) _).mono ?_
    rintro e w3 ⟨rfl, y0, y1, y2, y3, y4, y5, y6, y7, hy, hw3⟩
    have k3 : Kept (fun k => k ≠ w.heap.size + 1) w2 w3 := by rw [hw3]; exact putBytes_kept _ _ _ _
    have B3 : ByteBlk w3 (w.heap.size + 1) 72 341 := by rw [hw3]; exact ByteBlk.put _ _ _ ⟨c, b1, b2, b3⟩ hy
    have R3 : ByteBlk w3 w.heap.size 32 53 := r1.kept (k3.block _ (by omega))
    have K3 : Kept (fun k => k < w.heap.size) w w3 := (kept_of_below r3).trans (k3.mono fun k hk => by omega)
    have D3 : DigW w3 b nx (l : Int) := HD.out.kept (K3.block b hlt)
    have T3 : TableAt w3 := fun i hi => by
      obtain ⟨y, hy⟩ := HT.out i hi
      exact ⟨y, (K3.cell (p := ⟨3, i, none⟩) htl).trans hy⟩
    obtain ⟨L', hwr⟩ := write_padding (T := T) D3 B3 (by omega) (by omega) T3 htb
    have HWR := Lib.hid hwr
    have HR3 := Lib.hid R3
    have HK3 := Lib.hid K3
    have hs3 : w.heap.size + 2 ≤ w3.heap.size := by have := k3.size; omega
    clear hwr R3 K3 D3 T3 B3 k3 hw3 hy b1 b2 b3 r1 r3 r4 hw2
    go_wp2_with fail
    refine HWR.out.mono ?_
    rintro e w4 ⟨⟨v, rfl⟩, hD4, hk4⟩
    have c72 : w4.cell? ⟨b, 72, none⟩ = some (.int .i64 0) := hD4.c72
    have HR4 := Lib.hid (HR3.out.kept (hk4.block _ ⟨by omega, by omega⟩))
    have HK4 := Lib.hid (show Kept (fun k => k < w.heap.size ∧ k ≠ b) w w4 from (HK3.out.mono fun k hk => hk.1).trans (hk4.mono fun k hk => ⟨by omega, hk.2⟩))
    have hs4 : w.heap.size + 2 ≤ w4.heap.size := Nat.le_trans hs3 hk4.size
    have HD4 := Lib.hid hD4
    clear hD4 hk4 HWR HR3
    -- END of the first half: the digest's own block is made, then eight words are put into it
    go_wp2_with fail
    generalize hw5 : World.alloc w4 _ = v0
    have B0 : ByteBlk v0 w4.heap.size 32 53 := by rw [← hw5]; exact ByteBlk.zero (block_new _ _) (by kernel_rfl)
    have K0 : Kept (fun k => k < w4.heap.size) w4 v0 := by rw [← hw5]; exact (Kept.refl _ _).alloc (fun _ h => h) _
    have hb4 : b < w4.heap.size := HD4.out.lt
    have H8 := Lib.hid (fun i (hi : i < 8) => HD4.out.word i hi)
    have c74 : w4.cell? ⟨b, 74, none⟩ = some (.bool false) := HD4.out.c74
    clear hw5 c72
    obtain ⟨m0, e0⟩ := H8.out 0 (by decide)
    have d0 : v0.cell? ⟨b, 0, none⟩ = some (.int .u32 m0) := (K0.cell (p := ⟨b, 0, none⟩) hb4).trans e0
    have HB0 := Lib.hid B0
    have HK0 := Lib.hid K0
    clear B0 K0 e0
    refine wp_region_still_tail 6 (by kernel_rfl) (by kernel_rfl) ?_
    simp only [List.take_succ_cons, List.take_zero, List.drop_succ_cons, List.drop_zero]
    change wpStill _ _ (World.drew _) _ _ _
    repeat still_step
    refine wpStill_nil ?_
    change wpList _ _ _ _ _ (World.drew _)
    go_wp2_with fail
    refine (put32_blk (w := World.drew v0) (o := 0) (n := 32) (k := 32) (HB0.out.kept rfl) (by decide) (by unfold maxLen; decide) (by decide) _).mono ?_
    rintro e v1 ⟨rfl, B1, J1⟩
    have K1 : Kept (fun k => k < w4.heap.size) w4 v1 := HK0.out.trans ((Kept.refl _ v0).drew.trans (J1.mono fun k hk => Nat.ne_of_lt hk))
    clear d0 J1 HB0 HK0
    go_wp2_with fail
    obtain ⟨m1, e1⟩ := H8.out 1 (by decide)
    have d1 : v1.cell? ⟨b, 1, none⟩ = some (.int .u32 m1) := (K1.cell (p := ⟨b, 1, none⟩) hb4).trans e1
    have HB1 := Lib.hid B1
    have HK1 := Lib.hid K1
    clear B1 K1 e1
    refine wp_region_still_tail 6 (by kernel_rfl) (by kernel_rfl) ?_
    simp only [List.take_succ_cons, List.take_zero, List.drop_succ_cons, List.drop_zero]
    change wpStill _ _ (World.drew _) _ _ _
    repeat still_step
    refine wpStill_nil ?_
    change wpList _ _ _ _ _ (World.drew _)
    go_wp2_with fail
    refine (put32_blk (w := World.drew v1) (o := 4) (n := 28) (k := 28) (HB1.out.kept rfl) (by decide) (by unfold maxLen; decide) (by decide) _).mono ?_
    rintro e v2 ⟨rfl, B2, J2⟩
    have K2 : Kept (fun k => k < w4.heap.size) w4 v2 := HK1.out.trans ((Kept.refl _ v1).drew.trans (J2.mono fun k hk => Nat.ne_of_lt hk))
    clear d1 J2 HB1 HK1
    go_wp2_with fail
    obtain ⟨m2, e2⟩ := H8.out 2 (by decide)
    have d2 : v2.cell? ⟨b, 2, none⟩ = some (.int .u32 m2) := (K2.cell (p := ⟨b, 2, none⟩) hb4).trans e2
    have HB2 := Lib.hid B2
    have HK2 := Lib.hid K2
    clear B2 K2 e2
    refine wp_region_still_tail 6 (by kernel_rfl) (by kernel_rfl) ?_
    simp only [List.take_succ_cons, List.take_zero, List.drop_succ_cons, List.drop_zero]
    change wpStill _ _ (World.drew _) _ _ _
    repeat still_step
    refine wpStill_nil ?_
    change wpList _ _ _ _ _ (World.drew _)
    go_wp2_with fail
    refine (put32_blk (w := World.drew v2) (o := 8) (n := 24) (k := 24) (HB2.out.kept rfl) (by decide) (by unfold maxLen; decide) (by decide) _).mono ?_
    rintro e v3 ⟨rfl, B3, J3⟩
    have K3 : Kept (fun k => k < w4.heap.size) w4 v3 := HK2.out.trans ((Kept.refl _ v2).drew.trans (J3.mono fun k hk => Nat.ne_of_lt hk))
    clear d2 J3 HB2 HK2
    go_wp2_with fail
    obtain ⟨m3, e3⟩ := H8.out 3 (by decide)
    have d3 : v3.cell? ⟨b, 3, none⟩ = some (.int .u32 m3) := (K3.cell (p := ⟨b, 3, none⟩) hb4).trans e3
    have HB3 := Lib.hid B3
    have HK3 := Lib.hid K3
    clear B3 K3 e3
    refine wp_region_still_tail 6 (by kernel_rfl) (by kernel_rfl) ?_
    simp only [List.take_succ_cons, List.take_zero, List.drop_succ_cons, List.drop_zero]
    change wpStill _ _ (World.drew _) _ _ _
    repeat still_step
    refine wpStill_nil ?_
    change wpList _ _ _ _ _ (World.drew _)
    go_wp2_with fail
    refine (put32_blk (w := World.drew v3) (o := 12) (n := 20) (k := 20) (HB3.out.kept rfl) (by decide) (by unfold maxLen; decide) (by decide) _).mono ?_
    rintro e v4 ⟨rfl, B4, J4⟩
    have K4 : Kept (fun k => k < w4.heap.size) w4 v4 := HK3.out.trans ((Kept.refl _ v3).drew.trans (J4.mono fun k hk => Nat.ne_of_lt hk))
    clear d3 J4 HB3 HK3
    go_wp2_with fail
    obtain ⟨m4, e4⟩ := H8.out 4 (by decide)
    have d4 : v4.cell? ⟨b, 4, none⟩ = some (.int .u32 m4) := (K4.cell (p := ⟨b, 4, none⟩) hb4).trans e4
    have HB4 := Lib.hid B4
    have HK4 := Lib.hid K4
    clear B4 K4 e4
    refine wp_region_still_tail 6 (by kernel_rfl) (by kernel_rfl) ?_
    simp only [List.take_succ_cons, List.take_zero, List.drop_succ_cons, List.drop_zero]
    change wpStill _ _ (World.drew _) _ _ _
    repeat still_step
    refine wpStill_nil ?_
    change wpList _ _ _ _ _ (World.drew _)
    go_wp2_with fail
    refine (put32_blk (w := World.drew v4) (o := 16) (n := 16) (k := 16) (HB4.out.kept rfl) (by decide) (by unfold maxLen; decide) (by decide) _).mono ?_
    rintro e v5 ⟨rfl, B5, J5⟩
    have K5 : Kept (fun k => k < w4.heap.size) w4 v5 := HK4.out.trans ((Kept.refl _ v4).drew.trans (J5.mono fun k hk => Nat.ne_of_lt hk))
    clear d4 J5 HB4 HK4
    go_wp2_with fail
    obtain ⟨m5, e5⟩ := H8.out 5 (by decide)
    have d5 : v5.cell? ⟨b, 5, none⟩ = some (.int .u32 m5) := (K5.cell (p := ⟨b, 5, none⟩) hb4).trans e5
    have HB5 := Lib.hid B5
    have HK5 := Lib.hid K5
    clear B5 K5 e5
    refine wp_region_still_tail 6 (by kernel_rfl) (by kernel_rfl) ?_
    simp only [List.take_succ_cons, List.take_zero, List.drop_succ_cons, List.drop_zero]
    change wpStill _ _ (World.drew _) _ _ _
    repeat still_step
    refine wpStill_nil ?_
    change wpList _ _ _ _ _ (World.drew _)
    go_wp2_with fail
    refine (put32_blk (w := World.drew v5) (o := 20) (n := 12) (k := 12) (HB5.out.kept rfl) (by decide) (by unfold maxLen; decide) (by decide) _).mono ?_
    rintro e v6 ⟨rfl, B6, J6⟩
    have K6 : Kept (fun k => k < w4.heap.size) w4 v6 := HK5.out.trans ((Kept.refl _ v5).drew.trans (J6.mono fun k hk => Nat.ne_of_lt hk))
    clear d5 J6 HB5 HK5
    go_wp2_with fail
    obtain ⟨m6, e6⟩ := H8.out 6 (by decide)
    have d6 : v6.cell? ⟨b, 6, none⟩ = some (.int .u32 m6) := (K6.cell (p := ⟨b, 6, none⟩) hb4).trans e6
    have HB6 := Lib.hid B6
    have HK6 := Lib.hid K6
    clear B6 K6 e6
    refine wp_region_still_tail 6 (by kernel_rfl) (by kernel_rfl) ?_
    simp only [List.take_succ_cons, List.take_zero, List.drop_succ_cons, List.drop_zero]
    change wpStill _ _ (World.drew _) _ _ _
    repeat still_step
    refine wpStill_nil ?_
    change wpList _ _ _ _ _ (World.drew _)
    go_wp2_with fail
    refine (put32_blk (w := World.drew v6) (o := 24) (n := 8) (k := 8) (HB6.out.kept rfl) (by decide) (by unfold maxLen; decide) (by decide) _).mono ?_
    rintro e v7 ⟨rfl, B7, J7⟩
    have K7 : Kept (fun k => k < w4.heap.size) w4 v7 := HK6.out.trans ((Kept.refl _ v6).drew.trans (J7.mono fun k hk => Nat.ne_of_lt hk))
    clear d6 J7 HB6 HK6
    obtain ⟨m7, e7⟩ := H8.out 7 (by decide)
    have d7 : v7.cell? ⟨b, 7, none⟩ = some (.int .u32 m7) := (K7.cell (p := ⟨b, 7, none⟩) hb4).trans e7
    have HB7 := Lib.hid B7
    have HK7 := Lib.hid K7
    clear B7 K7 e7
    have d74 : v7.cell? ⟨b, 74, none⟩ = some (.bool false) := (HK7.out.cell (p := ⟨b, 74, none⟩) hb4).trans c74
    clear c74
    go_wp2_with fail
    refine wp_region_still_tail 6 (by kernel_rfl) (by kernel_rfl) ?_
    simp only [List.take_succ_cons, List.take_zero, List.drop_succ_cons, List.drop_zero]
    change wpStill _ _ (World.drew _) _ _ _
    repeat still_step
    refine wpStill_nil ?_
    change wpList _ _ _ _ _ (World.drew _)
    go_wp2_with fail
    refine (put32_blk (w := World.drew v7) (o := 28) (n := 4) (k := 4) (HB7.out.kept rfl) (by decide) (by unfold maxLen; decide) (by decide) _).mono ?_
    rintro e v8 ⟨rfl, B8, J8⟩
    have K8 : Kept (fun k => k < w4.heap.size) w4 v8 := HK7.out.trans ((Kept.refl _ v7).drew.trans (J8.mono fun k hk => Nat.ne_of_lt hk))
    clear d7 J8 HB7 HK7
    obtain ⟨c, b1, b2, b3⟩ := B8
    have R8 := HR4.out.kept (K8.block _ (by omega))
    obtain ⟨c', r1, r2, _⟩ := R8
    have HB8 := Lib.hid b1
    have HR8 := Lib.hid r1
    have HC8 := Lib.hid b3
    have hsz : c.size = c'.size := by rw [b2, r2]
    have HS8 := Lib.hid hsz
    have HN8 := Lib.hid b2
    have HK8 := Lib.hid K8
    clear b1 b2 b3 r1 r2 K8 hsz
    have hu := Tryz.underlying53
    have hi : (Tryz.prog.info? 53).map (·.size) = some c.size := by rw [HN8.out]; kernel_rfl
    have HU := Lib.hid hu
    have HI := Lib.hid hi
    have HV := Lib.hid (u8_cells HN8.out HC8.out)
    clear hu hi hal hal2
    go_wp2_with (first | (with_reducible refine wpList_load_row rfl 53 (.tmp 7) rfl w4.heap.size rfl 53 c (0, 0) _ HB8.out HU.out rfl HI.out ?_) | (with_reducible refine wpList_store_row rfl 53 (.tmp 2) (.tmp 103) rfl w.heap.size c' c 53 rfl rfl HR8.out HS8.out HI.out HV.out ?_))
    intro w9 hg9 hk9
    go_wp2_with fail
    refine bodyPost_ret (v := .agg c) (results_cell_row Tryz.results296 _ _ w.heap.size 53 c (0, 0) _ rfl hg9.out HU.out rfl HI.out) rfl ?_
    exact ⟨c, rfl, HN8.out, HC8.out, HK4.out.trans ((HK8.out.mono fun k hk => by omega).trans (hk9.out.mono fun k hk => by omega)), (hk9.out.cell (p := ⟨b, 74, none⟩) (Nat.ne_of_lt hlt)).trans ((HK8.out.cell (p := ⟨b, 74, none⟩) hb4).trans HD4.out.c74)⟩
end Go.Proofs.YtaohcejbjeaemaaGreatDoor

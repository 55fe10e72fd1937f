import Derived.Test.YtaohcejbjeaemaaGreatDoorJShaKShaL
namespace Go.Proofs.YtaohcejbjeaemaaGreatDoor
open Go Go.RowKit

set_option maxHeartbeats 4000000 in
set_option maxRecDepth 100000 in
theorem write_zero {w : World} {b k : Nat} {p : Option Addr} (h : DigW w b 0 0) :
    Calls Tryz.prog 294 #[.pointer (some ⟨b, 0, none⟩), .slice p 0 k] w (WritePost b 0 0 w) := by
  have c72 := h.c72
  have c73 := h.c73
  have hf := h.free
  have H1 := Lib.hid (h.setL 0)
  have HK1 := Lib.hid (show Kept (fun k => k ≠ b) w (w.setCell ⟨b, 73, none⟩ (.int .u64 0)) from (Kept.refl _ w).setCell (fun h => h rfl) _)
  clear h
  go_enter Tryz.func294, Tryz.ntmps294
  go_wp2_with fail
  go_ret2
  exact ⟨⟨_, rfl⟩, H1.out, HK1.out.mono fun k hk => hk.2⟩

set_option maxHeartbeats 4000000 in
set_option maxRecDepth 100000 in
theorem write_many {w : World} {b pb po k : Nat} {L : Int} {bs : List Int} (h : DigW w b 0 L) (hp : BytesAt w pb po bs) (hpb : pb ≠ b) (hpl : pb < w.heap.size) (h64 : 64 ≤ bs.length) (h520 : bs.length ≤ 520) (hk : bs.length ≤ k) (hm : k ≤ maxLen) (ht : TableAt w) (htb : 3 ≠ b) :
    Calls Tryz.prog 294 #[.pointer (some ⟨b, 0, none⟩), .slice (some ⟨pb, po, none⟩) bs.length k] w (WritePost b (bs.length % 64) (IntKind.u64.wrap (L + bs.length)) w) := by
  have HM := Lib.hid hm
  unfold maxLen at hm
  obtain ⟨n, hn⟩ : ∃ n, n = bs.length := ⟨_, rfl⟩
  have HN := Lib.hid hn
  rw [← hn] at h64 h520 hk ⊢
  have c72 := h.c72
  have c73 := h.c73
  have hf := h.free
  have hk1 : Kept (fun k => k ≠ b) w (w.setCell ⟨b, 73, none⟩ (.int .u64 (IntKind.u64.wrap (L + n)))) := (Kept.refl _ w).setCell (fun h => h rfl) _
  have HD1 := Lib.hid (h.setL (IntKind.u64.wrap (L + n)))
  have hp1 := hp.kept hk1 hpb
  obtain ⟨m, r, hmr, hm0, hr, hq⟩ : ∃ m r : Nat, m + r = n ∧ 64 ≤ m ∧ r = n % 64 ∧ bits .andNot .i64 (n : Int) 63 = (m : Int) := ⟨n - n % 64, n % 64, by omega, by omega, rfl, andNot_63 n (by omega)⟩
  have hr64 : r < 64 := by omega
  rw [← hr]
  have HT := Lib.hid (show TableAt (w.setCell ⟨b, 73, none⟩ (.int .u64 (IntKind.u64.wrap (L + n)))) from fun i hi => by obtain ⟨y, hy⟩ := ht i hi; exact ⟨y, (hk1.cell (p := ⟨3, i, none⟩) htb).trans hy⟩)
  have HP1 := Lib.hid hp1
  have HK1 := Lib.hid hk1
  have hlt : (bs.take m).length = m := by rw [List.length_take, ← hn]; omega
  have hmk : m ≤ k := by omega
  have HB := Lib.hid (block_any (w := w.setCell ⟨b, 73, none⟩ (.int .u64 (IntKind.u64.wrap (L + n)))) (n := m) (k := k) HD1.out.at (hlt ▸ (hp1.take m).to64) hmk HM.out HT.out)
  clear h hp hn hk1 hp1 ht hlt hr HT
  go_enter Tryz.func294, Tryz.ntmps294
  go_wp2_with fail
  refine wp_loop_once ?_
  go_wp2_with fail
  refine HB.out.mono ?_
  rintro e w2 ⟨rfl, hd2, hk2, hc2⟩
  have hD2 := HD1.out.of hd2 hc2
  have c72 := hD2.c72
  have hf := hD2.free
  have HD2 := Lib.hid hD2
  have HK2 := Lib.hid hk2
  have hsz : w.heap.size ≤ w2.heap.size := by have := hk2.size; simpa using this
  have HK0 := Lib.hid (show Kept (fun k => k < w.heap.size ∧ k ≠ b) w w2 from (HK1.out.mono fun k hk => hk.2).trans (hk2.mono fun k hk => ⟨by simpa using hk.1, hk.2⟩))
  have HP2 := Lib.hid ((HP1.out.kept hk2 ⟨by simpa using hpl, hpb⟩).drop m)
  clear hd2 hk2 hc2 hD2
  by_cases hr0 : r = 0
  · subst hr0
    obtain rfl : m = n := by omega
    by_cases hkm : k = m
    · subst hkm
      go_wp2_with fail
      go_ret2
      exact ⟨⟨_, rfl⟩, HD2.out, HK0.out⟩
    · go_wp2_with fail
      go_ret2
      exact ⟨⟨_, rfl⟩, HD2.out, HK0.out⟩
  · have hlr : (bs.drop m).length = r := by rw [List.length_drop, ← HN.out]; omega
    have hnm : n - m = r := by omega
    have HL := Lib.hid (show (bs.drop m).length = Nat.min r 64 by rw [hlr, show Nat.min r 64 = min r 64 from rfl]; omega)
    have HR := Lib.hid hlr
    clear hlr
    go_wp2_with (with_reducible refine wpList_copy_dig rfl (.tmp 90) (.tmp 91) 25 25 rfl 5 Tryz.underlying25 one_u8 b 8 64 64 pb (po + m) r (k - m) rfl rfl HD2.out HP2.out r HR.out HL.out (by decide) (by rw [HR.out]; omega) ?_)
    intro w3 hD3 hk3 c72' hf'
    go_wp2_with fail
    go_ret2
    exact ⟨⟨_, rfl⟩, hD3.out.setN r, HK0.out.trans ((hk3.out.trans ((Kept.refl _ w3).setCell (fun h => h rfl) _)).mono fun k hk => hk.2)⟩
end Go.Proofs.YtaohcejbjeaemaaGreatDoor
namespace Go.Proofs.YtaohcejbjeaemaaGreatDoor
open Go Go.RowKit

theorem DigW.mid {w : World} {b nx : Nat} {L : Int} (h : DigW w b nx L) : Bytes64 w b 8 64 := by
  obtain ⟨c, h1, h2, _⟩ := h
  intro i hi
  obtain ⟨n, _, hn⟩ := h2.x (8 + i) (by omega) (by omega)
  exact ⟨n, by rw [cell_at h1]; exact hn⟩

set_option maxHeartbeats 4000000 in
set_option maxRecDepth 100000 in
theorem write_pad {w : World} {b pb po k nx : Nat} {L : Int} {bs : List Int} (h : DigW w b nx L) (hp : BytesAt w pb po bs) (hpb : pb ≠ b) (hpl : pb < w.heap.size) (hnx : 0 < nx) (hnx64 : nx < 64) (hs : nx + bs.length = 64 ∨ nx + bs.length = 128) (hk : bs.length ≤ k) (hm : k ≤ maxLen) (ht : TableAt w) (htb : 3 ≠ b) :
    Calls Tryz.prog 294 #[.pointer (some ⟨b, 0, none⟩), .slice (some ⟨pb, po, none⟩) bs.length k] w (WritePost b 0 (IntKind.u64.wrap (L + bs.length)) w) := by
  have HM := Lib.hid hm
  unfold maxLen at hm
  obtain ⟨n, hn⟩ : ∃ n, n = bs.length := ⟨_, rfl⟩
  have HN := Lib.hid hn
  rw [← hn] at hs hk ⊢
  have c72 := h.c72
  have c73 := h.c73
  have hf := h.free
  obtain ⟨w1, hw1⟩ : ∃ w1, w1 = w.setCell ⟨b, 73, none⟩ (.int .u64 (IntKind.u64.wrap (L + n))) := ⟨_, rfl⟩
  have hk1 : Kept (fun k => k ≠ b) w w1 := by rw [hw1]; exact (Kept.refl _ w).setCell (fun h => h rfl) _
  have hD1 : DigW w1 b nx (IntKind.u64.wrap (L + n)) := by rw [hw1]; exact h.setL _
  have hs1 : w1.heap.size = w.heap.size := by rw [hw1]; simp
  obtain ⟨m, hm1, hm2⟩ : ∃ m : Nat, nx + m = 64 ∧ m ≤ n := ⟨64 - nx, by omega, by omega⟩
  have hmk : m ≤ k := by omega
  have hmn : (m : Int) ≤ (n : Int) := by omega
  have HP1 := Lib.hid (hp.kept hk1 hpb)
  have HT1 := Lib.hid (show TableAt w1 from fun i hi => by obtain ⟨y, hy⟩ := ht i hi; exact ⟨y, (hk1.cell (p := ⟨3, i, none⟩) htb).trans hy⟩)
  have HK1 := Lib.hid hk1
  have e72 := hD1.c72
  have ef := hD1.free
  have HD1 := Lib.hid hD1
  have HW1 := Lib.hid hw1
  have hlt := h.lt
  have HS1 := Lib.hid hs1
  have HTW := Lib.hid ht
  have htl : 3 < w.heap.size := by obtain ⟨y, hy⟩ := ht 0 (by decide); exact World.block_lt_of_cell? _ _ hy
  clear h hp hn hk1 hD1 ht hw1 hs1
  go_enter Tryz.func294, Tryz.ntmps294
  go_wp2_with fail
  rw [← HW1.out]
  clear c72 c73 hf
  have b0 : (0 : Int) ≤ (nx : Int) := by omega
  have b1 : (nx : Int) ≤ 64 := by omega
  have h6 : ¬ (64 : Nat) = nx := by omega
  refine wp_region_still_tail 9 (by kernel_rfl) (by kernel_rfl) ?_
  simp only [List.take_succ_cons, List.take_zero, List.drop_succ_cons, List.drop_zero]
  change wpStill _ _ (World.drew _) _ _ _
  repeat still_step
  refine wpStill_nil ?_
  change wpList _ _ _ _ _ (World.drew _)
  have hml : (bs.take m).length = m := by rw [List.length_take, ← HN.out]; omega
  have HL := Lib.hid (show (bs.take m).length = Nat.min n (64 - nx) by rw [hml, show Nat.min n (64 - nx) = min n (64 - nx) from rfl]; omega)
  have HML := Lib.hid hml
  have HPd := Lib.hid (show BytesAt (World.drew w1) pb po (bs.take m) from ((HP1.out.take m).kept (M := fun _ => True) ((Kept.refl _ w1).drew) trivial))
  clear hml
  refine (wpList_copy_dig rfl (.tmp 31) (.tmp 32) 25 25 rfl 5 Tryz.underlying25 one_u8 b (8 + nx) (64 - nx) (64 - nx) pb po n k rfl rfl HD1.out.drew HPd.out m HML.out HL.out (by omega) (by rw [HML.out]; omega) ?_)
  intro w2 hD2 hk2 c72 hf
  clear e72 ef
  have hk12 : Kept (fun k => k ≠ b) w w2 := HK1.out.trans (((Kept.refl _ w1).drew).trans hk2.out)
  have i1 : (nx : Int) + (m : Int) = 64 := by omega
  have hD3 : DigW (w2.setCell ⟨b, 72, none⟩ (.int .i64 64)) b 64 (IntKind.u64.wrap (L + n)) := hD2.out.setN 64
  have hk3 : Kept (fun k => k ≠ b) w (w2.setCell ⟨b, 72, none⟩ (.int .i64 64)) := hk12.setCell (fun h => h rfl) _
  have ht3 : TableAt (w2.setCell ⟨b, 72, none⟩ (.int .i64 64)) := fun i hi => by
    obtain ⟨y, hy⟩ := HT1.out i hi
    exact ⟨y, (hk3.cell (p := ⟨3, i, none⟩) htb).trans ((HK1.out.cell (p := ⟨3, i, none⟩) htb).symm.trans hy)⟩
  have HB := Lib.hid (block_any (k := 64) hD3.at hD3.mid (Nat.le_refl _) (by unfold maxLen; decide) ht3)
  have HD3 := Lib.hid hD3
  have HT3 := Lib.hid ht3
  have HK3 := Lib.hid hk3
  clear hD2 hk2 hk12 hD3 hk3 ht3 HL HPd HT1
  go_wp2_with fail
  refine HB.out.mono ?_
  rintro e w4 ⟨rfl, hd4, hk4, hc4⟩
  have hD4 := HD3.out.of hd4 hc4
  have hsz3 : w.heap.size ≤ (w2.setCell ⟨b, 72, none⟩ (.int .i64 64)).heap.size := HK3.out.size
  have hk04 : Kept (fun k => k < w.heap.size ∧ k ≠ b) w w4 := (HK3.out.mono fun k hk => hk.2).trans (hk4.mono fun k hk => ⟨Nat.lt_of_lt_of_le hk.1 hsz3, hk.2⟩)
  have hD5 : DigW (w4.setCell ⟨b, 72, none⟩ (.int .i64 0)) b 0 (IntKind.u64.wrap (L + n)) := hD4.setN 0
  have hk05 : Kept (fun k => k < w.heap.size ∧ k ≠ b) w (w4.setCell ⟨b, 72, none⟩ (.int .i64 0)) := hk04.setCell (fun h => h.2 rfl) _
  have c72 := hD4.c72
  have hf := hD4.free
  have HD5 := Lib.hid hD5
  have HK5 := Lib.hid hk05
  clear hD4 hD5 hk04 hk05 hd4 hk4 hc4 HB HD3 HT3 hsz3 b0 b1
  rcases hs with hs | hs
  · obtain rfl : n = m := by omega
    by_cases hkm : k = n
    · subst hkm
      go_wp2_with fail
      go_ret2
      exact ⟨⟨_, rfl⟩, HD5.out, HK5.out⟩
    · go_wp2_with fail
      go_ret2
      exact ⟨⟨_, rfl⟩, HD5.out, HK5.out⟩
  · have hnm : n - m = 64 := by omega
    have hpw : BytesAt w pb po bs := HP1.out.kept (M := fun k => k ≠ b) (w' := w) ⟨HK1.out.os.symm, HK1.out.tape.symm, HK1.out.output.symm, by rw [HS1.out]; exact Nat.le_refl _, fun k hk => (HK1.out.block k hk).symm⟩ hpb
    have hp5 := (hpw.kept HK5.out ⟨hpl, hpb⟩).drop m
    have ht5 : TableAt (w4.setCell ⟨b, 72, none⟩ (.int .i64 0)) := fun i hi => by
      obtain ⟨y, hy⟩ := HTW.out i hi
      exact ⟨y, (HK5.out.cell (p := ⟨3, i, none⟩) ⟨htl, htb⟩).trans hy⟩
    have hl64 : (bs.drop m).length = 64 := by rw [List.length_drop, ← HN.out]; exact hnm
    have HB := Lib.hid (block_any (n := 64) (k := k - m) HD5.out.at (hl64 ▸ hp5.to64) (by omega) (Nat.le_trans (Nat.sub_le _ _) HM.out) ht5)
    have a64 : bits .andNot .i64 64 63 = 64 := by decide +kernel
    clear hpw hp5 ht5 hl64
    have hkm : ¬ k = m := by omega
    have HFIN : ∀ w6, DigAt w6 b 0 → Kept (fun k => k < (w4.setCell ⟨b, 72, none⟩ (.int .i64 0)).heap.size ∧ k ≠ b) (w4.setCell ⟨b, 72, none⟩ (.int .i64 0)) w6 → (∀ i, 8 ≤ i → w6.cell? ⟨b, i, none⟩ = (w4.setCell ⟨b, 72, none⟩ (.int .i64 0)).cell? ⟨b, i, none⟩) → DigW w6 b 0 (IntKind.u64.wrap (L + n)) ∧ Kept (fun k => k < w.heap.size ∧ k ≠ b) w w6 :=
      fun w6 h1 h2 h3 => ⟨HD5.out.of h1 h3, HK5.out.trans (h2.mono fun k hk => ⟨Nat.lt_of_lt_of_le hk.1 HK5.out.size, hk.2⟩)⟩
    have HF := Lib.hid HFIN
    clear HFIN
    go_wp2_with fail
    refine wp_loop_once ?_
    go_wp2_with fail
    refine HB.out.mono ?_
    rintro e w6 ⟨rfl, hd6, hk6, hc6⟩
    have HE := Lib.hid (HF.out w6 hd6 hk6 hc6)
    clear hd6 hk6 hc6
    by_cases hk64 : k - m = 64
    · go_wp2_with fail
      go_ret2
      exact ⟨⟨_, rfl⟩, HE.out⟩
    · go_wp2_with fail
      go_ret2
      exact ⟨⟨_, rfl⟩, HE.out⟩
end Go.Proofs.YtaohcejbjeaemaaGreatDoor

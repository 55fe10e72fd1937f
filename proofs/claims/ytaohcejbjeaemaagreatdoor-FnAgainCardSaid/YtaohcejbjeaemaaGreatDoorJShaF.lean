import Derived.Test.YtaohcejbjeaemaaGreatDoorJShaDShaE
import Derived.IntWalk
import Derived.Deep.Cut
import Derived.LoopTactic
import Derived.Deep.QuietTactic
import Derived.BigQuiet
import Derived.StillTailTactics
namespace Go.Proofs.YtaohcejbjeaemaaGreatDoor
open Go Go.RowKit

set_option maxHeartbeats 8000000 in
set_option maxRecDepth 100000 in
theorem inner_lo {w ws : World} {b pb po n k j : Nat} {a : Act} {Q : Exit → Act → World → Prop} (hI : InnerI w b pb po n k j a ws) (h16 : j < 16) (hp : Bytes64 w pb po n) (hn : 64 ≤ n) (_hnk : n ≤ k) (_hk : k ≤ maxLen) (ht : TableAt w) :
    Code.wp Tryz.prog blkInner (Exit.then (fun a' w'' => (∃ j', InnerI w b pb po n k j' a' w'' ∧ j' ≤ 64) ∧ 64 - (intOf (a'.tmps.getD 80 undef)).toNat < 64 - (intOf (a.tmps.getD 80 undef)).toNat) Q) a ws := by
  have h64 : j < 64 := by omega
  unfold maxLen at _hk
  rw [show (64 - (intOf (a.tmps.getD 80 undef)).toNat) = 64 - j by rw [hI.s80]; rfl]
  obtain ⟨hsize, hdef, s0, s1, s4, ints, s80, hS⟩ := hI
  obtain ⟨f, hf, ha⟩ := open_frame hsize hdef
  simp only [hf] at s0 s1 s4 ints s80
  clear hf hsize hdef
  subst ha
  obtain ⟨q5, h5⟩ := ints 5 (by decide) (by decide)
  obtain ⟨q6, h6⟩ := ints 6 (by decide) (by decide)
  obtain ⟨q7, h7⟩ := ints 7 (by decide) (by decide)
  obtain ⟨q8, h8⟩ := ints 8 (by decide) (by decide)
  obtain ⟨q9, h9⟩ := ints 9 (by decide) (by decide)
  obtain ⟨q10, h10⟩ := ints 10 (by decide) (by decide)
  obtain ⟨q11, h11⟩ := ints 11 (by decide) (by decide)
  obtain ⟨q12, h12⟩ := ints 12 (by decide) (by decide)
  obtain ⟨q13, h13⟩ := ints 13 (by decide) (by decide)
  obtain ⟨q14, h14⟩ := ints 14 (by decide) (by decide)
  obtain ⟨q15, h15⟩ := ints 15 (by decide) (by decide)
  obtain ⟨q16, h16⟩ := ints 16 (by decide) (by decide)
  obtain ⟨q17, h17⟩ := ints 17 (by decide) (by decide)
  obtain ⟨q18, h18⟩ := ints 18 (by decide) (by decide)
  obtain ⟨q19, h19⟩ := ints 19 (by decide) (by decide)
  obtain ⟨q20, h20⟩ := ints 20 (by decide) (by decide)
  clear ints
  rw [s0, s1, s4, s80, h5, h6, h7, h8, h9, h10, h11, h12, h13, h14, h15, h16, h17, h18, h19, h20]
  clear s0 s1 s4 s80 h5 h6 h7 h8 h9 h10 h11 h12 h13 h14 h15 h16 h17 h18 h19 h20
  obtain ⟨q, hq⟩ : ∃ q : Nat, (j : Int) * 4 = q := ⟨j * 4, by omega⟩
  have hq60 : q ≤ 60 := by omega
  obtain ⟨y0, c0⟩ := hp q (by omega)
  obtain ⟨y1, c1⟩ := hp (q + 1) (by omega)
  obtain ⟨y2, c2⟩ := hp (q + 2) (by omega)
  obtain ⟨y3, c3⟩ := hp (q + 3) (by omega)
  have e0 := hS.cell c0
  have e1 := hS.cell c1
  have e2 := hS.cell c2
  have e3 := hS.cell c3
  obtain ⟨v0, ew⟩ := hS.word j h64
  have ef := hS.free j
  have HS := Lib.hid hS
  have HP := Lib.hid hp
  have HT := Lib.hid ht
  clear c0 c1 c2 c3 hS hp ht
  conv => arg 2; whnf
  go_wp2_with fail
  have g0 : (0 : Int) ≤ (q : Int) := by omega
  have l0 : (q : Int) < (n : Int) := by omega
  have g1 : (0 : Int) ≤ (q : Int) + 1 := by omega
  have l1 : (q : Int) + 1 < (n : Int) := by omega
  have g2 : (0 : Int) ≤ (q : Int) + 2 := by omega
  have l2 : (q : Int) + 2 < (n : Int) := by omega
  have g3 : (0 : Int) ≤ (q : Int) + 3 := by omega
  have l3 : (q : Int) + 3 < (n : Int) := by omega
  have lj : (j : Int) < 64 := by omega
  have w1 : IntKind.i64.wrap ((q : Int) + 1) = (q : Int) + 1 := IntWalk.i64_in _ (by omega)
  have w2 : IntKind.i64.wrap ((q : Int) + 2) = (q : Int) + 2 := IntWalk.i64_in _ (by omega)
  have w3 : IntKind.i64.wrap ((q : Int) + 3) = (q : Int) + 3 := IntWalk.i64_in _ (by omega)
  have t2 : ((q : Int) + 2).toNat = q + 2 := by omega
  have t3 : ((q : Int) + 3).toNat = q + 3 := by omega
  refine wp_region_still_tail 31 (by kernel_rfl) (by kernel_rfl) ?_
  simp only [List.take_succ_cons, List.take_zero, List.drop_succ_cons, List.drop_zero]
  change wpStill _ _ (World.drew _) _ _ _
  repeat still_step
  refine wpStill_nil ?_
  change wpList _ _ _ _ _ (World.drew _)
  go_upto_region 15 with (fail)
  generalize hw2 : World.drew (World.setCell ws _ _) = ws2
  have hS2 : BGen w ws2 := hw2 ▸ (HS.out.set j _).drew
  obtain ⟨v, cw⟩ := hS2.word j h64
  obtain ⟨t, ct0⟩ := HT.out j h64
  have ct := hS2.cell ct0
  have HS2 := Lib.hid hS2
  clear hS2 ct0 hw2 ew ef
  clear e0 e1 e2 e3 w1 w2 w3 t2 t3 g0 g1 g2 g3 l0 l1 l2 l3
  have gj : (0 : Int) ≤ (j : Int) := by omega
  go_quiet ((go_at_call 302; exact Calls.quiet_of_same (rotate_f _ _ (by decide) _)))
  go_wp2_with (go_at_call 302; refine (rotate_w _ _ (by decide) _).mono ?_; rintro e w' ⟨rfl, rfl⟩)
  refine ⟨⟨j + 1, ⟨rfl, rfl, rfl, rfl, rfl, ?_, ?_, HS2.out.drewN _⟩, by omega⟩, by simp [intOf]; omega⟩
  · intro i h5 h20
    have hi : i = 5 ∨ i = 6 ∨ i = 7 ∨ i = 8 ∨ i = 9 ∨ i = 10 ∨ i = 11 ∨ i = 12 ∨ i = 13 ∨ i = 14 ∨ i = 15 ∨ i = 16 ∨ i = 17 ∨ i = 18 ∨ i = 19 ∨ i = 20 := by omega
    rcases hi with rfl | rfl | rfl | rfl | rfl | rfl | rfl | rfl | rfl | rfl | rfl | rfl | rfl | rfl | rfl | rfl <;> exact ⟨_, rfl⟩
  · show Value.int .i64 ((j : Int) + 1) = .int .i64 ((j + 1 : Nat) : Int)
    go_num
end Go.Proofs.YtaohcejbjeaemaaGreatDoor

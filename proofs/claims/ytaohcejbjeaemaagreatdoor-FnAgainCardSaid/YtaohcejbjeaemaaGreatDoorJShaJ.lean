import Derived.Test.YtaohcejbjeaemaaGreatDoorJShaHShaI
import Derived.Deep.RegionHeld3
import Derived.IntWalk
import Derived.Deep.Cut
import Derived.LoopTactic
import Derived.Deep.QuietTactic
import Derived.BigQuiet
import Derived.StillTailTactics
namespace Go.Proofs.YtaohcejbjeaemaaGreatDoor
open Go Go.RowKit

set_option maxHeartbeats 8000000 in
set_option maxRecDepth 100000 in
theorem outer_exit {w ws : World} {b pb po n k : Nat} {a : Act} {Q : Exit → Act → World → Prop} (hI : OuterI w b pb po n k a ws) (hn : ¬ 64 ≤ n) (hx : ∀ po' n' k' a' w'', OuterI w b pb po' n' k' a' w'' → Q (.exit 0) a' w'') :
    Code.wp Tryz.prog blkOuter (Exit.then (fun a' w'' => (∃ po' n' k', OuterI w b pb po' n' k' a' w'' ∧ n' ≤ k' ∧ k' ≤ maxLen ∧ Bytes64 w pb po' n') ∧ lenOf (a'.tmps.getD 1 undef) < lenOf (a.tmps.getD 1 undef)) Q) a ws := by
  rw [show lenOf (a.tmps.getD 1 undef) = n by rw [hI.s1]; rfl]
  obtain ⟨hsize, hdef, s0, s1, s4, ints, hS⟩ := hI
  obtain ⟨f, hf, ha⟩ := open_frame hsize hdef
  simp only [hf] at s0 s1 s4 ints
  clear hf hsize hdef
  subst ha
  obtain ⟨q5, h5⟩ := ints 5 (by decide) (by decide)
  obtain ⟨q6, h6⟩ := ints 6 (by decide) (by decide)
  obtain ⟨q7, h7⟩ := ints 7 (by decide) (by decide)
  obtain ⟨q8, h8⟩ := ints 8 (by decide) (by decide)
  obtain ⟨q9, h9⟩ := ints 9 (by decide) (by decide)
  obtain ⟨q10, h10⟩ := ints 10 (by decide) (by decide)
  obtain ⟨q11, h11⟩ := ints 11 (by decide) (by decide)
  obtain ⟨q12, h12⟩ := ints 12 (by decide) (by decide)
  clear ints
  rw [s0, s1, s4, h5, h6, h7, h8, h9, h10, h11, h12]
  clear s0 s1 s4 h5 h6 h7 h8 h9 h10 h11 h12
  have HX := Lib.hid hx
  clear hx
  conv => arg 2; whnf
  go_wp2_with fail
  refine HX.out po n k _ _ ⟨rfl, rfl, rfl, rfl, rfl, ?_, hS⟩
  intro i h5 h20
  have hi : i = 5 ∨ i = 6 ∨ i = 7 ∨ i = 8 ∨ i = 9 ∨ i = 10 ∨ i = 11 ∨ i = 12 := by omega
  rcases hi with rfl | rfl | rfl | rfl | rfl | rfl | rfl | rfl <;> exact ⟨_, rfl⟩

theorem outer_loop {w ws : World} {b pb po n k : Nat} {a : Act} {Q : Exit → Act → World → Prop} (hI : OuterI w b pb po n k a ws) (hp : Bytes64 w pb po n) (hnk : n ≤ k) (hk : k ≤ maxLen) (ht : TableAt w) (hx : ∀ po' n' k' a' w'', OuterI w b pb po' n' k' a' w'' → Q (.exit 0) a' w'') :
    Code.wp Tryz.prog (Code.loop blkOuter) Q a ws := by
  refine wp_loop (fun a' w'' => ∃ po' n' k', OuterI w b pb po' n' k' a' w'' ∧ n' ≤ k' ∧ k' ≤ maxLen ∧ Bytes64 w pb po' n') (fun a' _ => lenOf (a'.tmps.getD 1 undef)) ⟨po, n, k, hI, hnk, hk, hp⟩ ?_
  rintro a2 w2 ⟨po', n', k', h2, h3, h4, h5⟩
  by_cases h64 : 64 ≤ n'
  · exact outer_round h2 h5 h64 h3 h4 ht
  · exact outer_exit h2 h64 hx

theorem hs8 {w : World} {b nx : Nat} {c : Array Value} (h : w.heap[b]? = some (.cells c 281 (0, 0))) (d : Dig c nx) (q0 q1 q2 q3 q4 q5 q6 q7 : Int) :
    DigAt (World.drew ((((((((w.setCell ⟨b, 0, none⟩ (.int .u32 q0)).setCell ⟨b, 1, none⟩ (.int .u32 q1)).setCell ⟨b, 2, none⟩ (.int .u32 q2)).setCell ⟨b, 3, none⟩ (.int .u32 q3)).setCell ⟨b, 4, none⟩ (.int .u32 q4)).setCell ⟨b, 5, none⟩ (.int .u32 q5)).setCell ⟨b, 6, none⟩ (.int .u32 q6)).setCell ⟨b, 7, none⟩ (.int .u32 q7))) b nx ∧
    Kept (fun k => k ≠ b) w (World.drew ((((((((w.setCell ⟨b, 0, none⟩ (.int .u32 q0)).setCell ⟨b, 1, none⟩ (.int .u32 q1)).setCell ⟨b, 2, none⟩ (.int .u32 q2)).setCell ⟨b, 3, none⟩ (.int .u32 q3)).setCell ⟨b, 4, none⟩ (.int .u32 q4)).setCell ⟨b, 5, none⟩ (.int .u32 q5)).setCell ⟨b, 6, none⟩ (.int .u32 q6)).setCell ⟨b, 7, none⟩ (.int .u32 q7))) ∧ (∀ i, 8 ≤ i → (World.drew ((((((((w.setCell ⟨b, 0, none⟩ (.int .u32 q0)).setCell ⟨b, 1, none⟩ (.int .u32 q1)).setCell ⟨b, 2, none⟩ (.int .u32 q2)).setCell ⟨b, 3, none⟩ (.int .u32 q3)).setCell ⟨b, 4, none⟩ (.int .u32 q4)).setCell ⟨b, 5, none⟩ (.int .u32 q5)).setCell ⟨b, 6, none⟩ (.int .u32 q6)).setCell ⟨b, 7, none⟩ (.int .u32 q7))).cell? ⟨b, i, none⟩ = w.cell? ⟨b, i, none⟩) := by
  refine ⟨⟨_, block_drew (block_setCell (block_setCell (block_setCell (block_setCell (block_setCell (block_setCell (block_setCell (block_setCell h 0 _) 1 _) 2 _) 3 _) 4 _) 5 _) 6 _) 7 _), ?_⟩, ?_, fun i hi => ?_⟩
  · exact (((((((d.setH 0 (by decide) _).setH 1 (by decide) _).setH 2 (by decide) _).setH 3 (by decide) _).setH 4 (by decide) _).setH 5 (by decide) _).setH 6 (by decide) _).setH 7 (by decide) _
  · exact Kept.drew (Kept.setCell (Kept.setCell (Kept.setCell (Kept.setCell (Kept.setCell (Kept.setCell (Kept.setCell (Kept.setCell (Kept.refl _ w) (fun h => h rfl) _) (fun h => h rfl) _) (fun h => h rfl) _) (fun h => h rfl) _) (fun h => h rfl) _) (fun h => h rfl) _) (fun h => h rfl) _) (fun h => h rfl) _)
  · have ne : ∀ j, j < 8 → (⟨b, j, none⟩ : Addr) ≠ ⟨b, i, none⟩ := fun j hj e => by have h : j = i := congrArg Addr.off e; omega
    rw [show ∀ (W : World) (x : Addr), (World.drew W).cell? x = W.cell? x from fun _ _ => rfl, World.cell?_setCell_other _ _ _ _ (ne 7 (by decide)), World.cell?_setCell_other _ _ _ _ (ne 6 (by decide)), World.cell?_setCell_other _ _ _ _ (ne 5 (by decide)), World.cell?_setCell_other _ _ _ _ (ne 4 (by decide)), World.cell?_setCell_other _ _ _ _ (ne 3 (by decide)), World.cell?_setCell_other _ _ _ _ (ne 2 (by decide)), World.cell?_setCell_other _ _ _ _ (ne 1 (by decide)), World.cell?_setCell_other _ _ _ _ (ne 0 (by decide))]

set_option maxHeartbeats 8000000 in
set_option maxRecDepth 100000 in
theorem blockGen_any {w : World} {b nx pb po n k : Nat} (h : DigAt w b nx) (hp : Bytes64 w pb po n) (hn : n ≤ k) (hk : k ≤ maxLen) (ht : TableAt w) :
    Calls Tryz.prog 231 #[.pointer (some ⟨b, 0, none⟩), .slice (some ⟨pb, po, none⟩) n k] w fun e w' => e = .returned (.tuple #[]) ∧ DigAt w' b nx ∧ Kept (fun k => k < w.heap.size ∧ k ≠ b) w w' ∧ (∀ i, 8 ≤ i → w'.cell? ⟨b, i, none⟩ = w.cell? ⟨b, i, none⟩) := by
  obtain ⟨c, hb, d⟩ := h
  have hlt := lt_of_block hb
  have hh : ∀ i, i < 8 → ∃ m, w.cell? ⟨b, i, none⟩ = some (.int .u32 m) := fun i hi => by rw [cell_at hb]; exact d.h i hi
  have HB := Lib.hid hb
  have HD := Lib.hid d
  have HP := Lib.hid hp
  have HT := Lib.hid ht
  have HK := Lib.hid hk
  unfold maxLen at hk
  clear hb d hp ht
  obtain ⟨n0, d0⟩ := hh 0 (by decide)
  obtain ⟨n1, d1⟩ := hh 1 (by decide)
  obtain ⟨n2, d2⟩ := hh 2 (by decide)
  obtain ⟨n3, d3⟩ := hh 3 (by decide)
  obtain ⟨n4, d4⟩ := hh 4 (by decide)
  obtain ⟨n5, d5⟩ := hh 5 (by decide)
  obtain ⟨n6, d6⟩ := hh 6 (by decide)
  obtain ⟨n7, d7⟩ := hh 7 (by decide)
  go_enter Tryz.func231, Tryz.ntmps231
  go_wp2_with fail
  go_quiet (fail)
  go_wp2_with fail
  clear hk
  refine outer_loop (w := w) (b := b) (pb := pb) (po := po) (n := n) (k := k) ⟨rfl, rfl, rfl, rfl, rfl, ?_, BGen.made w _ _ (by kernel_rfl)⟩ HP.out hn HK.out HT.out ?_
  · intro i h5 h20
    have hi : i = 5 ∨ i = 6 ∨ i = 7 ∨ i = 8 ∨ i = 9 ∨ i = 10 ∨ i = 11 ∨ i = 12 := by omega
    rcases hi with rfl | rfl | rfl | rfl | rfl | rfl | rfl | rfl <;> exact ⟨_, rfl⟩
  intro po n k a2 w2 hI
  have e0 := hI.gen.cell d0
  have e1 := hI.gen.cell d1
  have e2 := hI.gen.cell d2
  have e3 := hI.gen.cell d3
  have e4 := hI.gen.cell d4
  have e5 := hI.gen.cell d5
  have e6 := hI.gen.cell d6
  have e7 := hI.gen.cell d7
  have hb2 := (hI.gen.below.block b hlt).trans HB.out
  have hf : ∀ i, w2.frozen? ⟨b, i, none⟩ = false := fun i => free_at hb2 i
  have HB2 := Lib.hid hb2
  clear d0 d1 d2 d3 d4 d5 d6 d7 hh hb2 hn
  obtain ⟨hsize, hdef, s0, s1, s4, ints, hS⟩ := hI
  obtain ⟨f, hf, ha⟩ := open_frame hsize hdef
  simp only [hf] at s0 s1 s4 ints
  clear hf hsize hdef
  subst ha
  obtain ⟨q5, h5⟩ := ints 5 (by decide) (by decide)
  obtain ⟨q6, h6⟩ := ints 6 (by decide) (by decide)
  obtain ⟨q7, h7⟩ := ints 7 (by decide) (by decide)
  obtain ⟨q8, h8⟩ := ints 8 (by decide) (by decide)
  obtain ⟨q9, h9⟩ := ints 9 (by decide) (by decide)
  obtain ⟨q10, h10⟩ := ints 10 (by decide) (by decide)
  obtain ⟨q11, h11⟩ := ints 11 (by decide) (by decide)
  obtain ⟨q12, h12⟩ := ints 12 (by decide) (by decide)
  clear ints
  rw [s0, s1, s4, h5, h6, h7, h8, h9, h10, h11, h12]
  clear s0 s1 s4 h5 h6 h7 h8 h9 h10 h11 h12
  have HS := Lib.hid hS
  clear hS
  go_wp2_with fail
  go_region_held3 (fun _ => True) (trivial) (fail)
  go_wp2_with fail
  go_end0
  obtain ⟨r1, r2, r3⟩ := hs8 HB2.out HD.out q5 q6 q7 q8 q9 q10 q11 q12
  exact ⟨rfl, r1, ((kept_of_below HS.out.below).mono fun k hk => hk.1).trans (r2.mono fun k hk => hk.2), fun i hi => (r3 i hi).trans (World.cell?_of_block (a := ⟨b, i, none⟩) (HS.out.below.block b hlt))⟩
end Go.Proofs.YtaohcejbjeaemaaGreatDoor

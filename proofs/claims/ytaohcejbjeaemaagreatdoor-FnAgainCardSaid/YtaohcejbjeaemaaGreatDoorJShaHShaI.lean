import Derived.Test.YtaohcejbjeaemaaGreatDoorJShaF
import Derived.Test.YtaohcejbjeaemaaGreatDoorJShaG
import Derived.IntWalk
import Derived.Deep.Cut
import Derived.LoopTactic
import Derived.Deep.QuietTactic
import Derived.BigQuiet
import Derived.StillTailTactics
namespace Go.Proofs.YtaohcejbjeaemaaGreatDoor
open Go Go.RowKit

set_option maxHeartbeats 8000000 in
set_option maxRecDepth 100000 in
theorem inner_exit {w ws : World} {b pb po n k : Nat} {a : Act} {Q : Exit → Act → World → Prop} (hI : InnerI w b pb po n k 64 a ws) (hx : ∀ a' w'', InnerI w b pb po n k 64 a' w'' → Q (.exit 2) a' w'') :
    Code.wp Tryz.prog blkInner (Exit.then (fun a' w'' => (∃ j', InnerI w b pb po n k j' a' w'' ∧ j' ≤ 64) ∧ 64 - (intOf (a'.tmps.getD 80 undef)).toNat < 64 - (intOf (a.tmps.getD 80 undef)).toNat) Q) a ws := by
  rw [show (64 - (intOf (a.tmps.getD 80 undef)).toNat) = 0 by rw [hI.s80]; rfl]
  obtain ⟨hsize, hdef, s0, s1, s4, ints, s80, hS⟩ := hI
  obtain ⟨f, hf, ha⟩ := open_frame hsize hdef
  simp only [hf] at s0 s1 s4 ints s80
  clear hf hsize hdef
  subst ha
  obtain ⟨q5, h5⟩ := ints 5 (by decide) (by decide)
  obtain ⟨q6, h6⟩ := ints 6 (by decide) (by decide)
  obtain ⟨q7, h7⟩ := ints 7 (by decide) (by decide)
  obtain ⟨q8, h8⟩ := ints 8 (by decide) (by decide)
  obtain ⟨q9, h9⟩ := ints 9 (by decide) (by decide)
  obtain ⟨q10, h10⟩ := ints 10 (by decide) (by decide)
  obtain ⟨q11, h11⟩ := ints 11 (by decide) (by decide)
  obtain ⟨q12, h12⟩ := ints 12 (by decide) (by decide)
  obtain ⟨q13, h13⟩ := ints 13 (by decide) (by decide)
  obtain ⟨q14, h14⟩ := ints 14 (by decide) (by decide)
  obtain ⟨q15, h15⟩ := ints 15 (by decide) (by decide)
  obtain ⟨q16, h16⟩ := ints 16 (by decide) (by decide)
  obtain ⟨q17, h17⟩ := ints 17 (by decide) (by decide)
  obtain ⟨q18, h18⟩ := ints 18 (by decide) (by decide)
  obtain ⟨q19, h19⟩ := ints 19 (by decide) (by decide)
  obtain ⟨q20, h20⟩ := ints 20 (by decide) (by decide)
  clear ints
  rw [s0, s1, s4, s80, h5, h6, h7, h8, h9, h10, h11, h12, h13, h14, h15, h16, h17, h18, h19, h20]
  clear s0 s1 s4 s80 h5 h6 h7 h8 h9 h10 h11 h12 h13 h14 h15 h16 h17 h18 h19 h20
  have HX := Lib.hid hx
  clear hx
  conv => arg 2; whnf
  go_wp2_with fail
  refine HX.out _ _ ⟨rfl, rfl, rfl, rfl, rfl, ?_, rfl, hS⟩
  intro i h5 h20
  have hi : i = 5 ∨ i = 6 ∨ i = 7 ∨ i = 8 ∨ i = 9 ∨ i = 10 ∨ i = 11 ∨ i = 12 ∨ i = 13 ∨ i = 14 ∨ i = 15 ∨ i = 16 ∨ i = 17 ∨ i = 18 ∨ i = 19 ∨ i = 20 := by omega
  rcases hi with rfl | rfl | rfl | rfl | rfl | rfl | rfl | rfl | rfl | rfl | rfl | rfl | rfl | rfl | rfl | rfl <;> exact ⟨_, rfl⟩

theorem inner_loop {w ws : World} {b pb po n k : Nat} {a : Act} {Q : Exit → Act → World → Prop} (hI : InnerI w b pb po n k 0 a ws) (hp : Bytes64 w pb po n) (hn : 64 ≤ n) (hnk : n ≤ k) (hk : k ≤ maxLen) (ht : TableAt w) (hx : ∀ a' w'', InnerI w b pb po n k 64 a' w'' → Q (.exit 2) a' w'') :
    Code.wp Tryz.prog (Code.loop blkInner) Q a ws := by
  refine wp_loop (fun a' w'' => ∃ j', InnerI w b pb po n k j' a' w'' ∧ j' ≤ 64) (fun a' _ => 64 - (intOf (a'.tmps.getD 80 undef)).toNat) ⟨0, hI, by omega⟩ ?_
  rintro a2 w2 ⟨j, h2, hj⟩
  by_cases h16 : j < 16
  · exact inner_lo h2 h16 hp hn hnk hk ht
  · by_cases h64 : j < 64
    · exact inner_hi h2 (by omega) h64 hnk hk ht
    · obtain rfl : j = 64 := by omega
      exact inner_exit h2 hx
end Go.Proofs.YtaohcejbjeaemaaGreatDoor
namespace Go.Proofs.YtaohcejbjeaemaaGreatDoor
open Go Go.RowKit

theorem Bytes64.next {w : World} {pb po n : Nat} (h : Bytes64 w pb po n) : Bytes64 w pb (po + 64) (n - 64) := fun i hi => by
  obtain ⟨y, hy⟩ := h (64 + i) (by omega)
  exact ⟨y, by rw [Nat.add_assoc]; exact hy⟩

set_option maxHeartbeats 8000000 in
set_option maxRecDepth 100000 in
theorem outer_round {w ws : World} {b pb po n k : Nat} {a : Act} {Q : Exit → Act → World → Prop} (hI : OuterI w b pb po n k a ws) (hp : Bytes64 w pb po n) (hn : 64 ≤ n) (hnk : n ≤ k) (hk : k ≤ maxLen) (ht : TableAt w) :
    Code.wp Tryz.prog blkOuter (Exit.then (fun a' w'' => (∃ po' n' k', OuterI w b pb po' n' k' a' w'' ∧ n' ≤ k' ∧ k' ≤ maxLen ∧ Bytes64 w pb po' n') ∧ lenOf (a'.tmps.getD 1 undef) < lenOf (a.tmps.getD 1 undef)) Q) a ws := by
  have HK := Lib.hid hk
  unfold maxLen at hk
  rw [show lenOf (a.tmps.getD 1 undef) = n by rw [hI.s1]; rfl]
  obtain ⟨hsize, hdef, s0, s1, s4, ints, hS⟩ := hI
  obtain ⟨f, hf, ha⟩ := open_frame hsize hdef
  simp only [hf] at s0 s1 s4 ints
  clear hf hsize hdef
  subst ha
  obtain ⟨q5, h5⟩ := ints 5 (by decide) (by decide)
  obtain ⟨q6, h6⟩ := ints 6 (by decide) (by decide)
  obtain ⟨q7, h7⟩ := ints 7 (by decide) (by decide)
  obtain ⟨q8, h8⟩ := ints 8 (by decide) (by decide)
  obtain ⟨q9, h9⟩ := ints 9 (by decide) (by decide)
  obtain ⟨q10, h10⟩ := ints 10 (by decide) (by decide)
  obtain ⟨q11, h11⟩ := ints 11 (by decide) (by decide)
  obtain ⟨q12, h12⟩ := ints 12 (by decide) (by decide)
  clear ints
  rw [s0, s1, s4, h5, h6, h7, h8, h9, h10, h11, h12]
  clear s0 s1 s4 h5 h6 h7 h8 h9 h10 h11 h12
  have HS := Lib.hid hS
  have HP := Lib.hid hp
  have HT := Lib.hid ht
  clear hS hp ht
  conv => arg 2; whnf
  go_wp2_with fail
  refine inner_loop (w := w) (b := b) (pb := pb) (po := po) (n := n) (k := k) ⟨rfl, rfl, rfl, rfl, rfl, ?_, rfl, HS.out⟩ HP.out hn hnk HK.out HT.out ?_
  · intro i h5 h20
    have hi : i = 5 ∨ i = 6 ∨ i = 7 ∨ i = 8 ∨ i = 9 ∨ i = 10 ∨ i = 11 ∨ i = 12 ∨ i = 13 ∨ i = 14 ∨ i = 15 ∨ i = 16 ∨ i = 17 ∨ i = 18 ∨ i = 19 ∨ i = 20 := by omega
    rcases hi with rfl | rfl | rfl | rfl | rfl | rfl | rfl | rfl | rfl | rfl | rfl | rfl | rfl | rfl | rfl | rfl <;> exact ⟨_, rfl⟩
  intro a2 w2 hI
  clear q5 q6 q7 q8 q9 q10 q11 q12 f
  obtain ⟨hsize, hdef, s0, s1, s4, ints, s80, hS2⟩ := hI
  obtain ⟨f, hf, ha⟩ := open_frame hsize hdef
  simp only [hf] at s0 s1 s4 ints s80
  clear hf hsize hdef
  subst ha
  obtain ⟨q5, h5⟩ := ints 5 (by decide) (by decide)
  obtain ⟨q6, h6⟩ := ints 6 (by decide) (by decide)
  obtain ⟨q7, h7⟩ := ints 7 (by decide) (by decide)
  obtain ⟨q8, h8⟩ := ints 8 (by decide) (by decide)
  obtain ⟨q9, h9⟩ := ints 9 (by decide) (by decide)
  obtain ⟨q10, h10⟩ := ints 10 (by decide) (by decide)
  obtain ⟨q11, h11⟩ := ints 11 (by decide) (by decide)
  obtain ⟨q12, h12⟩ := ints 12 (by decide) (by decide)
  obtain ⟨q13, h13⟩ := ints 13 (by decide) (by decide)
  obtain ⟨q14, h14⟩ := ints 14 (by decide) (by decide)
  obtain ⟨q15, h15⟩ := ints 15 (by decide) (by decide)
  obtain ⟨q16, h16⟩ := ints 16 (by decide) (by decide)
  obtain ⟨q17, h17⟩ := ints 17 (by decide) (by decide)
  obtain ⟨q18, h18⟩ := ints 18 (by decide) (by decide)
  obtain ⟨q19, h19⟩ := ints 19 (by decide) (by decide)
  obtain ⟨q20, h20⟩ := ints 20 (by decide) (by decide)
  clear ints
  rw [s0, s1, s4, s80, h5, h6, h7, h8, h9, h10, h11, h12, h13, h14, h15, h16, h17, h18, h19, h20]
  clear s0 s1 s4 s80 h5 h6 h7 h8 h9 h10 h11 h12 h13 h14 h15 h16 h17 h18 h19 h20
  have HS2 := Lib.hid hS2
  clear hS2
  by_cases h64 : k = 64
  · have hn64 : n = 64 := by omega
    subst h64
    subst hn64
    go_wp2_with fail
    refine ⟨⟨po, 0, 0, ⟨rfl, rfl, rfl, rfl, rfl, ?_, HS2.out⟩, Nat.le_refl _, Nat.zero_le _, fun i hi => absurd hi (Nat.not_lt_zero _)⟩, by simp [lenOf]⟩
    intro i h5 h20
    have hi : i = 5 ∨ i = 6 ∨ i = 7 ∨ i = 8 ∨ i = 9 ∨ i = 10 ∨ i = 11 ∨ i = 12 := by omega
    rcases hi with rfl | rfl | rfl | rfl | rfl | rfl | rfl | rfl <;> exact ⟨_, rfl⟩
  · go_wp2_with fail
    refine ⟨⟨po + 64, n - 64, k - 64, ⟨rfl, rfl, rfl, rfl, rfl, ?_, HS2.out⟩, by omega, Nat.le_trans (Nat.sub_le _ _) HK.out, HP.out.next⟩, by simp [lenOf]; omega⟩
    intro i h5 h20
    have hi : i = 5 ∨ i = 6 ∨ i = 7 ∨ i = 8 ∨ i = 9 ∨ i = 10 ∨ i = 11 ∨ i = 12 := by omega
    rcases hi with rfl | rfl | rfl | rfl | rfl | rfl | rfl | rfl <;> exact ⟨_, rfl⟩
end Go.Proofs.YtaohcejbjeaemaaGreatDoor

import Derived.Test.YtaohcejbjeaemaaGreatDoorJSetStkSame
import Derived.Test.YtaohcejbjeaemaaGreatDoorJOutPCopies
namespace Go.Proofs.YtaohcejbjeaemaaGreatDoor
open Go Go.RowKit

/-- Lists of bytes that lie in a row of slices. -/
def AllAt (w : World) (b o : Nat) (E : List (List Int)) : Prop := ∀ i e, E[i]? = some e → ∃ p m k, w.cell? ⟨b, o + i, none⟩ = some (.slice p m k) ∧ Elem (fun _ => True) w (.slice p m k) e

theorem sameAll_no {w : World} {p p' : Option Addr} {n n' k k' : Nat} (h : n ≠ n') : Calls Tryz.prog 11 #[.slice p n k, .slice p' n' k'] w fun e w' => e = .returned (.bool false) ∧ w = w' := by
  have h' : ¬ (n : Int) = n' := by omega
  go_enter Tryz.func11, Tryz.ntmps11
  go_wp2
  go_ret
  exact ⟨rfl, rfl⟩

set_option maxHeartbeats 1000000 in
set_option maxRecDepth 100000 in
theorem sameAll_yes {w : World} {b o b' o' k k' : Nat} {E : List (List Int)} (hx : AllAt w b o E) (hy : AllAt w b' o' E) (hE : ∀ e ∈ E, e.length ≤ 1000000) (hl : E.length ≤ 1000000) :
    Calls Tryz.prog 11 #[.slice (some ⟨b, o, none⟩) E.length k, .slice (some ⟨b', o', none⟩) E.length k'] w fun e w' => e = .returned (.bool true) ∧ ∃ m, w' = w.drewN m := by
  have HX := Lib.hid hx
  have HY := Lib.hid hy
  have HE := Lib.hid hE
  clear hx hy hE
  obtain ⟨n, hn⟩ : ∃ n, n = E.length := ⟨_, rfl⟩
  rw [← hn]
  have HN := Lib.hid hn
  have hn' : n ≤ 1000000 := by rw [hn]; exact hl
  clear hn hl
  go_enter Tryz.func11, Tryz.ntmps11
  go_wp2
  go_loopw [5] (fun i wr => ∃ j : Nat, j ≤ n ∧ i = .int .i64 j ∧ ∃ m, wr = w.drewN m) (fun i _ => n - (intOf i).toNat)
  case atStart => exact ⟨0, Nat.zero_le _, rfl, 0, rfl⟩
  case round =>
    obtain ⟨j, hj, rfl, m, hwr⟩ := hrel
    by_cases hlt : j < n
    · obtain ⟨e, he⟩ : ∃ e, E[j]? = some e := ⟨_, List.getElem?_eq_getElem (by rw [← HN.out]; exact hlt)⟩
      obtain ⟨p1, m1, k1, c1, x1⟩ := HX.out j e he
      obtain ⟨p2, m2, k2, c2, x2⟩ := HY.out j e he
      have d1 : wr.cell? ⟨b, o + j, none⟩ = some (.slice p1 m1 k1) := by rw [hwr]; exact c1
      have d2 : wr.cell? ⟨b', o' + j, none⟩ = some (.slice p2 m2 k2) := by rw [hwr]; exact c2
      have x1 : Elem (fun _ => True) wr (.slice p1 m1 k1) e := by rw [hwr]; exact x1.kept ((Kept.refl _ _).drewN m)
      have x2 : Elem (fun _ => True) wr (.slice p2 m2 k2) e := by rw [hwr]; exact x2.kept ((Kept.refl _ _).drewN m)
      have hq : ∀ d, Calls Tryz.prog 20 #[.slice p1 m1 k1, .slice p2 m2 k2] (wr.drewN d) fun e w'' => e = .returned (.bool true) ∧ ∃ m', w'' = wr.drewN m' := fun d =>
        (same_q (w := wr.drewN d) (x1.kept ((Kept.refl _ _).drewN d)) (x2.kept ((Kept.refl _ _).drewN d)) (HE.out e (List.mem_of_getElem? he))).mono (by rintro _ _ ⟨rfl, m', rfl⟩; exact ⟨rfl, d + m', by simp [World.drewN, Nat.add_assoc]⟩)
      have HQ := Lib.hid hq
      have HW := Lib.hid hwr
      clear hq he x1 x2 c1 c2 hwr
      go_wp2
      go_quiet (first | (go_at_call 20; exact HQ.out _))
      go_wp2
      go_roundw
      case rel => exact ⟨j + 1, by omega, by go_num, m + nq, by rw [HW.out]; simp [World.drewN, Nat.add_assoc]⟩
      case measure => simp [intOf]; omega
    · obtain rfl : j = n := by omega
      go_wp2
      go_ret
      exact ⟨rfl, m, by first | rfl | exact hwr⟩
end Go.Proofs.YtaohcejbjeaemaaGreatDoor
namespace Go.Proofs.YtaohcejbjeaemaaGreatDoor
open Go Go.RowKit

set_option maxHeartbeats 1000000 in
set_option maxRecDepth 100000 in
theorem fits_yes {w : World} {b o b' o' k k' : Nat} {E : List (List Int)} {l : List Int} (hx : AllAt w b o E) (hy : AllAt w b' o' (E ++ [l])) (hE : ∀ e ∈ E, e.length ≤ 1000000) (hl : E.length ≤ 1000000) (hk : E.length + 1 ≤ k' ∧ k' ≤ maxLen) :
    Calls Tryz.prog 8 #[.slice (some ⟨b, o, none⟩) E.length k, .slice (some ⟨b', o', none⟩) (E.length + 1) k'] w fun e w' => e = .returned (.bool true) ∧ ∃ m, w' = w.drewN m := by
  have hy' : AllAt w b' o' E := fun i e he => hy i e (by rw [List.getElem?_append_left (List.getElem?_eq_some_iff.1 he).1]; exact he)
  have HS := Lib.hid (sameAll_yes (k := k) (k' := k') hx hy' hE hl)
  obtain ⟨h1, h2⟩ := hk
  unfold maxLen at h2
  obtain ⟨n, hn⟩ : ∃ n, n = E.length := ⟨_, rfl⟩
  rw [← hn] at HS h1 hl ⊢
  clear hx hy hy' hE hn
  go_enter Tryz.func8, Tryz.ntmps8
  go_wp2_with fail
  refine (sameAll_no (by omega)).mono ?_
  rintro e w1 ⟨rfl, rfl⟩
  go_wp2_with fail
  refine HS.out.mono ?_
  rintro e w2 ⟨rfl, m, rfl⟩
  go_wp2_with fail
  go_ret
  exact ⟨rfl, m, rfl⟩
end Go.Proofs.YtaohcejbjeaemaaGreatDoor
namespace Go.Proofs.YtaohcejbjeaemaaGreatDoor
open Go Go.RowKit

/-- Where the copies' bytes lie: in new blocks, not in the row's own. -/
def Fresh (w0 w : World) (out : Value) (k : Nat) : Prop := w0.heap.size ≤ k ∧ k < w.heap.size ∧ out.ownBlock ≠ some k

/-- Copies on their way. -/
def CopiesAt (w0 w : World) (out : Value) (E : List (List Int)) : Prop :=
  ∃ D, Row w out D ∧ Elems (Fresh w0 w out) w D E ∧ Below w0.heap.size w0 w ∧ (∀ k, out.ownBlock = some k → w0.heap.size ≤ k)

theorem copies_next {w wr w1 w2 : World} {u v' x : Value} {D : List Value} {E : List (List Int)} {e : List Int} {j : Nat} (hD : Row wr u D) (hEl : Elems (Fresh w wr u) wr D (E.take j)) (hB : Below w.heap.size w wr) (hO : ∀ k, u.ownBlock = some k → w.heap.size ≤ k)
    (hb1 : Below wr.heap.size wr w1) (he1 : Elem (NewIn wr w1) w1 x e) {o : Obj} (hrow : Row w2 v' (D ++ [x])) (hwhere : v'.ownBlock = u.ownBlock ∨ ∃ k, v'.ownBlock = some k ∧ w1.heap.size + 1 ≤ k) (hg : (w1.alloc o).grownBy w2 u.ownBlock) (he : E[j]? = some e) : CopiesAt w w2 v' (E.take (j + 1)) := by
  have s0 := hB.size
  have s1 := hb1.size
  have s2 : w1.heap.size + 1 ≤ w2.heap.size := by have := hg.size; simpa using this
  have hu : ∀ k, u.ownBlock = some k → k < wr.heap.size := fun k hk => hD.lt k hk
  have kG : Kept (fun k => k < w1.heap.size ∧ u.ownBlock ≠ some k) w1 w2 :=
    ((Kept.refl _ w1).alloc (fun k hk => hk.1) o).grown hg (fun k hk => by simp; omega) (fun k hk hk' => hk'.2 hk)
  have hv : ∀ k, k < w1.heap.size → u.ownBlock ≠ some k → v'.ownBlock ≠ some k := by
    intro k hk hk' hv
    rcases hwhere with h | ⟨k', h, h'⟩
    · exact hk' (h ▸ hv)
    · rw [h] at hv; cases hv; omega
  have kO : Kept (Fresh w wr u) wr w2 := ((kept_of_below hb1).mono fun k hk => hk.2.1).trans (kG.mono fun k hk => ⟨Nat.lt_of_lt_of_le hk.2.1 s1, hk.2.2⟩)
  have hn : ∀ k, NewIn wr w1 k → u.ownBlock ≠ some k := fun k hk h => by have := hu k h; unfold NewIn at hk; omega
  refine ⟨D ++ [x], hrow, ?_, ?_, ?_⟩
  · rw [List.take_add_one, he]
    refine .snoc (hEl.kept kO fun k hk => ⟨hk.1, ?_, hv k (Nat.lt_of_lt_of_le hk.2.1 s1) hk.2.2⟩) ((he1.kept (kG.mono fun k hk => ⟨hk.2, hn k hk⟩)).mono fun k hk => ⟨?_, ?_, hv k hk.2 (hn k hk)⟩)
    · have := hk.2.1; omega
    · have := hk.1; omega
    · have := hk.2; omega
  · exact hB.trans ((hb1.mono s0).trans (Kept.below (kG.mono fun k hk => ⟨by omega, fun h => by have := hO k h; omega⟩)))
  · intro k hk
    rcases hwhere with h | ⟨k', h, h'⟩
    · exact hO k (h ▸ hk)
    · rw [h] at hk; cases hk; omega

set_option maxHeartbeats 2000000 in
set_option maxRecDepth 100000 in
theorem copies_many {M : Nat → Prop} {w : World} {b o k : Nat} {E : List (List Int)} (hx : ∀ i e, E[i]? = some e → ∃ p m k, w.cell? ⟨b, o + i, none⟩ = some (.slice p m k) ∧ Elem M w (.slice p m k) e) (hM : ∀ k, M k → k < w.heap.size) (hE : ∀ e ∈ E, e.length ≤ 1000000) (hl : E.length ≤ 1000000) :
    Calls Tryz.prog 15 #[.slice (some ⟨b, o, none⟩) E.length k] w fun e w' => ∃ out, e = .returned out ∧ CopiesAt w w' out E := by
  obtain ⟨i0, hi, hz0, hz1, hz2⟩ := info_parts info_sl
  have HX := Lib.hid hx
  have HM := Lib.hid hM
  have HE := Lib.hid hE
  clear hx hM hE
  obtain ⟨n, hn⟩ : ∃ n, n = E.length := ⟨_, rfl⟩
  rw [← hn]
  have HN := Lib.hid hn
  have hn' : n ≤ 1000000 := by rw [hn]; exact hl
  clear hn hl
  go_enter Tryz.func15, Tryz.ntmps15
  go_wp2
  go_loopw [3, 4] (fun out i wr => ∃ j : Nat, j ≤ n ∧ i = .int .i64 j ∧ Hid (CopiesAt w wr out (E.take j))) (fun _ i _ => n - (intOf i).toNat)
  case atStart => exact ⟨0, Nat.zero_le _, rfl, Lib.hid ⟨[], Row.nil _, .nil, Below.refl _ _, by simp [Value.ownBlock]⟩⟩
  case round =>
    obtain ⟨j, hj, rfl, hC⟩ := hrel
    by_cases hlt : j < n
    · obtain ⟨e, he⟩ : ∃ e, E[j]? = some e := ⟨_, List.getElem?_eq_getElem (by rw [← HN.out]; exact hlt)⟩
      obtain ⟨p1, m1, k1, c1, x1⟩ := HX.out j e he
      obtain ⟨D, hD, hEl, hB, hown⟩ := hC.out
      have lb := World.block_lt_of_cell? _ _ c1
      have d1 : wr.cell? ⟨b, o + j, none⟩ = some (.slice p1 m1 k1) := (World.cell?_of_block (a := ⟨b, o + j, none⟩) (hB.block b lb)).trans c1
      have X1 := Lib.hid (x1.kept ((kept_of_below hB).mono HM.out))
      have hMr : ∀ k, M k → k < wr.heap.size := fun k hk => Nat.lt_of_lt_of_le (HM.out k hk) hB.size
      have hle : e.length ≤ 140737488355328 := Nat.le_trans (HE.out e (List.mem_of_getElem? he)) (by decide)
      have hDn : D.length ≤ 1000000 := by rw [hEl.length, List.length_take]; omega
      have HD := Lib.hid hD
      have HEl := Lib.hid hEl
      have HB := Lib.hid hB
      have HO := Lib.hid hown
      have Hej := Lib.hid he
      clear c1 x1 hD hEl hB hown he hC
      go_wp2_with fail
      refine (copied_any X1.out hMr hle).mono ?_
      rintro e' w1 ⟨v, rfl, hb1, he1⟩
      have HE1 := Lib.hid he1
      obtain ⟨vp, vc, rfl, _⟩ := he1
      have HR := Lib.hid ((HD.out.kept (kept_of_below hb1) (fun g hg => HD.out.lt g hg)).alloc (.cells #[.slice vp e.length vc] 25))
      have HB1 := Lib.hid hb1
      clear hb1 d1
      go_wp2_with (at_builtin; refine wpList_append_row rfl _ _ 22 rfl i0 Tryz.underlying22 hi hz0 hz1 hz2 _ D rfl HR.out ⟨w1.heap.size, 0, none⟩ 1 1 [.slice vp e.length vc] rfl rfl ?c1 ?c2 ?c3 ?_)
      case c1 =>
        intro i u hu
        match i, hu with
        | 0, hu => simp at hu; subst hu; simp [Addr.add]
      case c2 => intro u hu; simp at hu; subst hu; rfl
      case c3 => omega
      intro v' w2 hrow hwhere hg
      have hfin : CopiesAt w w2 v' (E.take (j + 1)) := copies_next HD.out HEl.out HB.out HO.out HB1.out HE1.out hrow hwhere hg Hej.out
      have HF := Lib.hid hfin
      clear hfin hrow hwhere hg
      go_wp2
      go_roundw
      case rel => exact ⟨j + 1, by omega, by go_num, HF⟩
      case measure => simp [intOf]; omega
    · obtain rfl : j = n := by omega
      go_wp2
      go_ret
      have := hC.out
      rw [HN.out, List.take_length] at this
      exact ⟨_, rfl, this⟩
end Go.Proofs.YtaohcejbjeaemaaGreatDoor

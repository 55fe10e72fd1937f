import Derived.Test.YtaohcejbjeaemaaGreatDoorJSetStkSame
import Derived.Test.YtaohcejbjeaemaaGreatDoorJSameAllCopiesN
import Derived.Test.YtaohcejbjeaemaaGreatDoorJExecuteAParse
import Derived.Test.YtaohcejbjeaemaaGreatDoorJOutPCopies
import Derived.Test.YtaohcejbjeaemaaGreatDoorJOprsTurns
namespace Go.Proofs.YtaohcejbjeaemaaGreatDoor
open Go Go.RowKit

theorem elems_at {M : Nat → Prop} {w : World} {D : List Value} {E : List (List Int)} (h : Elems M w D E) : ∀ (i : Nat) (x : Value), D[i]? = some x → ∃ (e : List Int) (a : Option Addr) (k : Nat), E[i]? = some e ∧ x = .slice a e.length k ∧ Elem M w x e := by
  induction h with
  | nil => intro i x hx; simp at hx
  | @snoc D E x b h1 h2 ih =>
    intro i y hy
    have hlen := h1.length
    by_cases hi : i < D.length
    · rw [List.getElem?_append_left hi] at hy
      obtain ⟨e, a, k, h3, h4⟩ := ih i y hy
      exact ⟨e, a, k, by rw [List.getElem?_append_left (by omega)]; exact h3, h4⟩
    · have hi' : i = D.length := by
        have := (List.getElem?_eq_some_iff.1 hy).1
        simp at this; omega
      subst hi'
      simp at hy
      subst hy
      obtain ⟨a, k, rfl, h5⟩ := h2
      exact ⟨b, a, k, by rw [hlen]; simp, rfl, a, k, rfl, h5⟩

set_option maxHeartbeats 2000000 in
set_option maxRecDepth 100000 in
theorem setFirst_any {K : EngK} {V : EngW} {w : World} {E : List (List Int)} {g cap : Nat} {D : List Value} (h : EngA K V [] [] w) (hg : LiveA K V w g) (hrow : ∀ i x, D[i]? = some x → w.cell? ⟨g, 0 + i, none⟩ = some x) (hE : Elems (LiveA K V w) w D E) (hl : E.length ≤ 100000) :
    Calls Tryz.prog 14 #[.pointer (some ⟨K.e, 0, none⟩), .slice (some ⟨g, 0, none⟩) D.length cap] w fun e w' => e = .returned (.tuple #[]) ∧ ∃ s, EngA K { V with stk := s } E [] w' ∧ ToA K V w { V with stk := s } w' := by
  obtain ⟨D0, hD0, hE0⟩ := h.row
  have hz : D0 = [] := List.eq_nil_of_length_eq_zero (by rw [hE0.length]; rfl)
  subst hz
  have ⟨sp, sk, hs⟩ : ∃ sp sk, V.stk = .slice sp 0 sk := by
    rcases hD0.form with ⟨h1, _⟩ | ⟨g, cap, cur, h1, _⟩
    · exact ⟨_, _, h1⟩
    · exact ⟨_, _, h1⟩
  have hI := h.stkIn hD0
  have hI' : StkIn (BareS K V w) K.e 23 90 (cellsA K V) w (.slice sp 0 sk) [] := by rw [hs] at hI; exact hI
  have HS := Lib.hid (setStack_any (o := 23) (k := cap) hI' hg.s (fun i x hx => by obtain ⟨e, a, k, _, h2, _⟩ := elems_at hE i x hx; exact ⟨a, e.length, k, h2, hrow i x hx⟩) (by rw [hE.length]; exact hl))
  have H := Lib.hid h
  have HE := Lib.hid hE
  clear h hD0 hE0 hI hI' hs hg hrow hE
  go_enter Tryz.func14, Tryz.ntmps14
  go_wp2_with fail
  refine HS.out.mono ?_
  rintro e w1 ⟨rfl, h1⟩
  have hk := (h1.choose_spec.2.2.2.2).mono (M' := LiveA K V w) (fun _ h => h.s)
  have HP := Lib.hid (H.out.post0 (E' := E) h1 (HE.out.kept hk (fun _ h => h)))
  clear h1 hk
  go_wp2_with fail
  go_end0
  exact ⟨rfl, HP.out⟩

set_option maxHeartbeats 1000000 in
set_option maxRecDepth 100000 in
theorem setNone_any {b o : Nat} {w : World} {p a : Option Addr} {q k : Nat} (hc : w.cell? ⟨b, o, none⟩ = some (.slice p 0 q)) :
    Calls Tryz.prog 25 #[.pointer (some ⟨b, o, none⟩), .slice a 0 k] w fun e w' => e = .returned (.tuple #[]) ∧ Below w.heap.size w w' := by
  go_enter Tryz.func25, Tryz.ntmps25
  go_wp2_with (go_at_call 40; refine (depth_any hc (by decide)).mono ?_; rintro e w' ⟨rfl, rfl⟩)
  refine drop_zero.mono ?_
  rintro e w0 ⟨s, rfl, hB⟩
  have HB := Lib.hid hB
  clear hB hc
  go_wp2_with fail
  refine wp_loop_once ?_
  go_wp2_with fail
  go_end0
  exact ⟨rfl, HB.out⟩

set_option maxRecDepth 100000 in
theorem setAlt_none {K : EngK} {V : EngW} {E : List (List Int)} {w : World} {a : Option Addr} {k : Nat} (h : EngA K V E [] w) :
    Calls Tryz.prog 16 #[.pointer (some ⟨K.e, 0, none⟩), .slice a 0 k] w fun e w' => e = .returned (.tuple #[]) ∧ EngA K V E [] w' ∧ ToA K V w V w' := by
  obtain ⟨D0, hD0, hE0⟩ := h.arow
  have hz : D0 = [] := List.eq_nil_of_length_eq_zero (by rw [hE0.length]; rfl)
  subst hz
  have ⟨sp, sk, hs⟩ : ∃ sp sk, V.alt = .slice sp 0 sk := by
    rcases hD0.form with ⟨h1, _⟩ | ⟨g, cap, cur, h1, _⟩
    · exact ⟨_, _, h1⟩
    · exact ⟨_, _, h1⟩
  have c25 : w.cell? ⟨K.e, 25, none⟩ = some (.slice sp 0 sk) := by rw [h.cell 25, ← hs]; rfl
  have HS := Lib.hid (setNone_any (o := 25) (a := a) (k := k) c25)
  have H := Lib.hid h
  clear h hD0 hE0 hs c25
  go_enter Tryz.func16, Tryz.ntmps16
  go_wp2_with fail
  refine HS.out.mono ?_
  rintro e w1 ⟨rfl, hB⟩
  have HP := Lib.hid (H.out.put (V' := V) rfl rfl ((hB.block K.e H.out.lt).trans H.out.blk) ((kept_of_below hB).mono fun k hk => hk.1))
  clear hB
  go_wp2_with fail
  go_end0
  exact ⟨rfl, HP.out⟩
end Go.Proofs.YtaohcejbjeaemaaGreatDoor
namespace Go.Proofs.YtaohcejbjeaemaaGreatDoor
open Go Go.RowKit

/-- An array of n slices whose last j are those of D. -/
def Filled (g0 n j : Nat) (D : List Value) (w wr : World) : Prop :=
  ∃ cu : List Value, cu.length = n ∧ wr.heap[g0]? = some (.cells cu.toArray 25 (0, 0)) ∧ (∀ k, n - j ≤ k → k < n → cu[k]? = D[k]?) ∧ Below g0 w wr

theorem Filled.next {g0 n j : Nat} {D : List Value} {w wr : World} (h : Filled g0 n j D w wr) (hj : j < n) {x : Value} (hx : D[n - j - 1]? = some x) :
    Filled g0 n (j + 1) D w (wr.setCell ⟨g0, n - j - 1, none⟩ x) := by
  obtain ⟨cu, h1, h2, h3, h4⟩ := h
  refine ⟨cu.set (n - j - 1) x, by simp [h1], ?_, ?_, ?_⟩
  · rw [block_setCell h2]
    simp
  · intro k hk hkn
    rw [List.getElem?_set]
    by_cases e : n - j - 1 = k
    · subst e
      rw [if_pos rfl, if_pos (by omega), hx]
    · rw [if_neg e]
      exact h3 k (by omega) hkn
  · exact Kept.below ((kept_of_below h4).setCell (p := ⟨g0, n - j - 1, none⟩) (Nat.lt_irrefl _) _)

set_option maxHeartbeats 2000000 in
set_option maxRecDepth 100000 in
theorem getStack_any {b o : Nat} {w : World} {g n cap : Nat} {D : List Value} (hc : w.cell? ⟨b, o, none⟩ = some (.slice (some ⟨g, 0, none⟩) n cap)) (hn : n = D.length) (h0 : 0 < n) (hl : n ≤ 100000)
    (hd : ∀ i x, D[i]? = some x → ∃ a m k, x = .slice a m k ∧ w.cell? ⟨g, i, none⟩ = some x) :
    Calls Tryz.prog 29 #[.pointer (some ⟨b, o, none⟩)] w fun e w' => e = .returned (.slice (some ⟨w.heap.size, 0, none⟩) n n) ∧ Filled w.heap.size n n D w w' := by
  obtain ⟨i0, hi, hz0, hz1, hz2⟩ := info_parts info_sl
  have lb := World.block_lt_of_cell? _ _ hc
  have lg : g < w.heap.size := by
    obtain ⟨a, m, k, _, h⟩ := hd 0 D[0] (by simp)
    exact World.block_lt_of_cell? _ _ h
  have HD := Lib.hid hd
  have HN := Lib.hid hn
  clear hd hn
  go_enter Tryz.func29, Tryz.ntmps29
  go_wp2_with first
    | (go_at_call 40; refine (depth_any hc (by omega)).mono ?_; rintro e w' ⟨rfl, rfl⟩)
    | (refine wpList_make_full _ rfl _ _ 22 rfl w.heap.size 25 i0 (.slice none 0 0) 1 Tryz.underlying22 hi hz0 hz1 _ _ _ _ n rfl rfl (by omega) (by omega) (by rw [hz2]; omega) (by unfold maxLen; omega) (Nat.le_refl _) ?_)
  intro w1 ho1 hg1
  obtain ⟨cu, hcu⟩ : ∃ cu : List Value, cu = List.replicate n (.slice none 0 0) := ⟨_, rfl⟩
  have hrow1 : w1.heap[w.heap.size]? = some (.cells cu.toArray 25 (0, 0)) := made_row ho1 hcu
  have hb1 : Below w.heap.size w w1 := (Below.refl _ _).grown hg1 (Nat.le_refl _) (by simp)
  have hF : Filled w.heap.size n 0 D w w1 := ⟨cu, by rw [hcu]; simp, hrow1, fun k h1 h2 => by omega, hb1⟩
  have HF := Lib.hid hF
  have HC := Lib.hid hc
  clear hrow1 hb1 hF ho1 hg1 hcu hc
  go_wp2_with fail
  go_loopw [10] (fun i wr => ∃ j : Nat, j ≤ n ∧ i = .int .i64 j ∧ Hid (Filled w.heap.size n j D w wr)) (fun i _ => n - (intOf i).toNat)
  case atStart => exact ⟨0, Nat.zero_le _, rfl, HF⟩
  case round =>
    obtain ⟨j, hj, rfl, hC⟩ := hrel
    by_cases hlt : j < n
    · obtain ⟨x, hx⟩ : ∃ x, D[n - j - 1]? = some x := ⟨_, List.getElem?_eq_getElem (by rw [← HN.out]; omega)⟩
      obtain ⟨a, m, k1, rfl, c1⟩ := HD.out _ x hx
      have HX := Lib.hid hx
      have hbl := hC.out.choose_spec.2.2.2
      have d1 : wr.cell? ⟨g, n - j - 1, none⟩ = some (.slice a m k1) := (World.cell?_of_block (a := ⟨g, n - j - 1, none⟩) (hbl.block g lg)).trans c1
      have d0 : wr.cell? ⟨b, o, none⟩ = some (.slice (some ⟨g, 0, none⟩) n cap) := (World.cell?_of_block (a := ⟨b, o, none⟩) (hbl.block b lb)).trans HC.out
      obtain ⟨old, d2⟩ : ∃ old, wr.cell? ⟨w.heap.size, n - j - 1, none⟩ = some old := by
        obtain ⟨cu, h1, h2, _⟩ := hC.out
        exact ⟨cu[n - j - 1]'(by omega), by rw [cell_at h2]; simp⟩
      have f2 : wr.frozen? ⟨w.heap.size, n - j - 1, none⟩ = false := free_at hC.out.choose_spec.2.1 _
      have HP := Lib.hid (peek_any (o := o) (j := (j : Int)) d0 (by omega) j rfl hlt d1)
      have HF2 := Lib.hid (hC.out.next hlt hx)
      clear hbl hx c1 d0 d1
      go_wp2_with (go_at_call 51; refine HP.out.mono ?_; rintro e w' ⟨rfl, rfl⟩)
      go_roundw
      case rel => exact ⟨j + 1, by omega, by go_num, HF2⟩
      case measure => simp [intOf]; omega
    · obtain rfl : j = n := by omega
      go_wp2
      go_ret
      exact ⟨rfl, hC.out⟩
end Go.Proofs.YtaohcejbjeaemaaGreatDoor
namespace Go.Proofs.YtaohcejbjeaemaaGreatDoor
open Go Go.RowKit

/-- GetStack at n elements. -/
theorem gs_any {K : EngK} {V : EngW} {E A : List (List Int)} {w : World} (h : EngA K V E A w) (h0 : 0 < E.length) (hl : E.length ≤ 100000) :
    Calls Tryz.prog 18 #[.pointer (some ⟨K.e, 0, none⟩)] w fun e w' => e = .returned (.slice (some ⟨w.heap.size, 0, none⟩) E.length E.length) ∧ Below w.heap.size w w' ∧
      ∀ i e, E[i]? = some e → ∃ p m k, w'.cell? ⟨w.heap.size, 0 + i, none⟩ = some (.slice p m k) ∧ Elem (fun k => k < w.heap.size) w' (.slice p m k) e := by
  obtain ⟨D, hD, hE⟩ := h.row
  have hlen := hE.length
  rcases hD.form with ⟨_, h2⟩ | ⟨g, cap, cur, h1, hg, h3, h4, h5, h6⟩
  · rw [h2] at hlen; simp at hlen; omega
  have c23 : w.cell? ⟨K.e, 23, none⟩ = some (.slice (some ⟨g, 0, none⟩) E.length cap) := by rw [h.cell 23, ← hlen]; exact congrArg some h1
  have hd : ∀ i x, D[i]? = some x → ∃ a m k, x = .slice a m k ∧ w.cell? ⟨g, i, none⟩ = some x := fun i x hx => by
    obtain ⟨e, a, k, _, h7, _⟩ := elems_at hE i x hx
    exact ⟨a, e.length, k, h7, Row.cellAt hg h6 _ _ hx⟩
  have HS := Lib.hid (getStack_any (o := 23) c23 hlen.symm h0 hl hd)
  have HE := Lib.hid hE
  have HL := Lib.hid hlen
  clear h hD hE hg h6 h1 h3 h4 h5 c23 hd hlen
  go_enter Tryz.func18, Tryz.ntmps18
  go_wp2_with fail
  refine HS.out.mono ?_
  rintro e w1 ⟨rfl, hF⟩
  have HF := Lib.hid hF
  clear hF
  go_wp2_with fail
  go_ret
  obtain ⟨cu, f1, f2, f3, f4⟩ := HF.out
  refine ⟨rfl, f4, fun i e he => ?_⟩
  have hi : i < E.length := (List.getElem?_eq_some_iff.1 he).1
  obtain ⟨x, hx⟩ : ∃ x, D[i]? = some x := ⟨_, List.getElem?_eq_getElem (by rw [HL.out]; exact hi)⟩
  obtain ⟨e', a, k, g1, rfl, g3⟩ := elems_at HE.out i x hx
  rw [he] at g1
  obtain rfl := Option.some.inj g1
  refine ⟨a, e.length, k, ?_, (g3.mono (fun k hk => hk.1)).kept (kept_of_below f4)⟩
  rw [cell_at f2, Nat.zero_add, List.getElem?_toArray, f3 i (by omega) hi, hx]

/-- GetAltStack of an empty one. -/
theorem ga_none {K : EngK} {V : EngW} {E : List (List Int)} {w : World} (h : EngA K V E [] w) : Calls Tryz.prog 19 #[.pointer (some ⟨K.e, 0, none⟩)] w fun e w' => (∃ q m, e = .returned (.slice q 0 m)) ∧ Below w.heap.size w w' := by
  obtain ⟨D, hD, hE⟩ := h.arow
  have hd : D = [] := List.eq_nil_of_length_eq_zero (by rw [hE.length]; rfl)
  subst hd
  have ⟨sp, sk, hs⟩ : ∃ sp sk, V.alt = .slice sp 0 sk := by
    rcases hD.form with ⟨h1, _⟩ | ⟨g, cap, cur, h1, _⟩
    · exact ⟨_, _, h1⟩
    · exact ⟨_, _, h1⟩
  have c25 : w.cell? ⟨K.e, 25, none⟩ = some (.slice sp 0 sk) := by rw [h.cell 25, ← hs]; rfl
  clear h hD hE hs
  go_enter Tryz.func19, Tryz.ntmps19
  go_wp2_with fail
  refine (getStack_zero (o := 25) c25).mono ?_
  rintro e w1 ⟨⟨q, m, rfl⟩, hb⟩
  have HB := Lib.hid hb
  clear hb
  go_wp2_with fail
  go_ret
  exact ⟨⟨_, _, rfl⟩, HB.out⟩

/-- Copies that were made beside an engine: they may be set as its stack. -/
theorem copies_live {K : EngK} {V : EngW} {E F A : List (List Int)} {w w' : World} {g c : Nat} (h : EngA K V F A w) (hc : CopiesAt w w' (.slice (some ⟨g, 0, none⟩) E.length c) E) :
    ∃ D, D.length = E.length ∧ EngA K V F A w' ∧ ToA K V w V w' ∧ LiveA K V w' g ∧ (∀ i x, D[i]? = some x → w'.cell? ⟨g, 0 + i, none⟩ = some x) ∧ Elems (LiveA K V w') w' D E := by
  obtain ⟨D, hD, hE, hB, hO⟩ := hc
  have hge : w.heap.size ≤ g := hO g rfl
  have hE' := h.lt
  obtain ⟨D1, r1, _⟩ := h.row
  obtain ⟨D2, r2, _⟩ := h.arow
  have live : ∀ k, w.heap.size ≤ k → k < w'.heap.size → LiveA K V w' k := fun k h1 h2 =>
    ⟨h2, by omega, fun e => by have := r1.lt k e; omega, fun e => by have := r2.lt k e; omega⟩
  obtain ⟨e1, t1⟩ := h.put (V' := V) rfl rfl ((hB.block K.e hE').trans h.blk) ((kept_of_below hB).mono fun k hk => hk.1)
  refine ⟨D, hE.length, e1, t1, live g hge (hD.lt g rfl), ?_, hE.kept (Kept.refl _ _) (fun k hk => live k hk.1 hk.2.1)⟩
  rcases hD.form with ⟨h1, _⟩ | ⟨g', cap, cur, h1, hg, h3, h4, h5, h6⟩
  · simp at h1
  · simp only [Value.slice.injEq, Option.some.injEq, Addr.mk.injEq] at h1
    obtain ⟨⟨rfl, _⟩, _⟩ := h1
    intro i x hx
    rw [Nat.zero_add]
    exact Row.cellAt hg h6 _ _ hx

/-- Copies as a list of bytes that lie in a row of slices. -/
theorem copies_all {w w' : World} {out : Value} {E : List (List Int)} (hc : CopiesAt w w' out E) (h0 : 0 < E.length) :
    ∃ g c, out = .slice (some ⟨g, 0, none⟩) E.length c ∧ E.length ≤ c ∧ c ≤ maxLen ∧ ∀ wx, Kept (fun k => k < w'.heap.size) w' wx → AllAt wx g 0 E := by
  obtain ⟨D, hD, hE, hB, hO⟩ := hc
  have hlen := hE.length
  rcases hD.form with ⟨_, h2⟩ | ⟨g, cap, cur, h1, hg, h3, h4, h5, h6⟩
  · rw [h2] at hlen; simp at hlen; omega
  refine ⟨g, cap, by rw [h1, hlen], by omega, h4, fun wx hk i e he => ?_⟩
  have hi : i < E.length := (List.getElem?_eq_some_iff.1 he).1
  obtain ⟨x, hx⟩ : ∃ x, D[i]? = some x := ⟨_, List.getElem?_eq_getElem (by rw [hlen]; exact hi)⟩
  obtain ⟨e', a, k, g1, rfl, g3⟩ := elems_at hE i x hx
  rw [he] at g1
  obtain rfl := Option.some.inj g1
  refine ⟨a, e.length, k, ?_, ((g3.mono (fun k hk => hk.2.1)).kept hk).mono (fun _ _ => trivial)⟩
  rw [Nat.zero_add, hk.cell (p := ⟨g, i, none⟩) (lt_of_block hg)]
  exact Row.cellAt hg h6 _ _ hx

/-- What Over answers: no error, and the stack that is left. -/
def OverPost (F : List (List Int)) (w : World) (e : Ending) (w' : World) : Prop :=
  ∃ g c v, e = .returned (.tuple #[.int .i64 0, .slice (some ⟨g, 0, none⟩) F.length c, v]) ∧ F.length ≤ c ∧ c ≤ maxLen ∧ AllAt w' g 0 F ∧ Below w.heap.size w w'

def VA : EngW := ⟨1, 0, 0, -1, .pointer none, .slice none 0 0, .slice none 0 0, 0, .slice none 0 0⟩

theorem over_below {K : EngK} {V' : EngW} {s : Value} {w w0 w1 w2 w3 w4 w5 : World} (h0 : Below w.heap.size w w0) (h1 : Below w0.heap.size w0 w1) (hge : w0.heap.size ≤ K.e) (h2 : Below w1.heap.size w1 w2) (h3 : ToA K VA w2 { VA with stk := s } w3) (h4 : ToA K { VA with stk := s } w3 V' w4) (h5 : Below w4.heap.size w4 w5) : Below w.heap.size w w5 := by
  have z0 := h0.size
  have z1 := h1.size
  have z2 := h2.size
  have t := h3.trans h4
  have z3 := t.kept.size
  have k2 : Below w0.heap.size w2 w4 := ⟨t.kept.os, t.kept.tape, t.kept.output, t.kept.size, fun k hk => t.kept.block k ⟨by omega, by omega, by simp [VA, Value.ownBlock], by simp [VA, Value.ownBlock]⟩⟩
  exact h0.trans ((h1.trans ((h2.mono z1).trans (k2.trans (h5.mono (by omega))))).mono z0)

set_option maxHeartbeats 4000000 in
set_option maxRecDepth 100000 in
theorem over_any {M : Nat → Prop} {w : World} {p : Option Addr} {k : Nat} {bs : List Int} (hx : Elem M w (.slice p bs.length k) bs) (hM : ∀ k, M k → k < w.heap.size) (hs : Script bs 0) (hl : 0 < bs.length ∧ bs.length ≤ 10000)
    {gi gk go gok : Nat} {ver lock sq amt rules : Int} (hin : w.heap[gi]? = some (.cells (in0 sq).toArray 57 (0, 0))) (hout : w.heap[go]? = some (.cells #[.int .i64 1, .slice none 0 0] 59 (0, 0))) (hfl : NoFlags rules)
    {b o k' : Nat} {E F : List (List Int)} (hst : ∀ i e, E[i]? = some e → ∃ p m k, w.cell? ⟨b, o + i, none⟩ = some (.slice p m k) ∧ Elem M w (.slice p m k) e) (hE : ∀ e ∈ E, e.length ≤ 1000000) (hE0 : 0 < E.length) (hE1 : E.length ≤ 100000)
    (hF0 : 0 < F.length) (hF1 : F.length ≤ 100000) (hF : ∀ e ∈ F, e.length ≤ 1000000) {n : Nat}
    (hgo : ∀ K V w1, (∀ a v, w.cell? a = some v → K.mem a v) → EngA K V E [] w1 → V.si = 1 → V.oi = 0 → V.off = 0 → V.pos = -1 → V.nops = 0 → EngineOf K bs ver sq rules → Goes K.e (LetA K V F w1) n w1) :
    Calls Tryz.prog 9 #[.agg #[.slice p bs.length k, .int .i64 amt, .int .i32 ver, .slice (some ⟨gi, 0, none⟩) 1 gk, .slice (some ⟨go, 0, none⟩) 1 gok, .int .u32 lock, .int .i64 0, .int .u32 rules], .slice (some ⟨b, o, none⟩) E.length k', .slice none 0 0] w (OverPost F w) := by
  have lgi := lt_of_block hin
  have lgo := lt_of_block hout
  have HX := Lib.hid hx
  have HS := Lib.hid hs
  have HI := Lib.hid hin
  have HO := Lib.hid hout
  have HM := Lib.hid hM
  have HFL := Lib.hid hfl
  have HG := Lib.hid hgo
  have HL := Lib.hid hl
  have HST := Lib.hid hst
  have HE := Lib.hid hE
  have HF := Lib.hid hF
  clear hx hs hin hout hM hfl hgo hl hst hE hF
  go_enter Tryz.func9, Tryz.ntmps9
  go_wp2_with fail
  obtain ⟨w0, hw0⟩ : ∃ w0, w0 = w.alloc (.cells #[.slice p bs.length k, .int .i64 amt, .int .i32 ver, .slice (some ⟨gi, 0, none⟩) 1 gk, .slice (some ⟨go, 0, none⟩) 1 gok, .int .u32 lock, .int .i64 0, .int .u32 rules] 41) := ⟨_, rfl⟩
  have hb0 : Below w.heap.size w w0 := by rw [hw0]; exact (Below.refl _ _).alloc (Nat.le_refl _) _
  rw [← hw0]
  have HB0 := Lib.hid hb0
  clear hw0 hb0
  refine (engine_any (HX.out.kept ((kept_of_below HB0.out).mono HM.out)) (fun k hk => Nat.lt_of_lt_of_le (HM.out k hk) HB0.out.size) HS.out HL.out ((HB0.out.block gi lgi).trans HI.out) ((HB0.out.block go lgo).trans HO.out) HFL.out).mono ?_
  rintro e w1 ⟨K, rfl, hb1, hge, E1, hmem, O1⟩
  have HB1 := Lib.hid hb1
  have HGE := Lib.hid hge
  have HE1 := Lib.hid E1.up
  have HO1 := Lib.hid O1
  have HMM := Lib.hid (fun a v (h : w.cell? a = some v) => hmem a v ((World.cell?_of_block (HB0.out.block a.block (World.block_lt_of_cell? _ _ h))).trans h))
  have hb01 := HB0.out.trans (hb1.mono HB0.out.size)
  have HB01 := Lib.hid hb01
  clear hb1 hge E1 O1 hmem hb01
  have hst1 : ∀ i e, E[i]? = some e → ∃ p m k, w1.cell? ⟨b, o + i, none⟩ = some (.slice p m k) ∧ Elem M w1 (.slice p m k) e := fun i e he => by
    obtain ⟨p, m, k, c1, x1⟩ := HST.out i e he
    exact ⟨p, m, k, (World.cell?_of_block (a := ⟨b, o + i, none⟩) (HB01.out.block b (World.block_lt_of_cell? _ _ c1))).trans c1, x1.kept ((kept_of_below HB01.out).mono HM.out)⟩
  have HST1 := Lib.hid hst1
  clear hst1
  go_wp2_with fail
  refine (copies_many HST1.out (fun k hk => Nat.lt_of_lt_of_le (HM.out k hk) HB01.out.size) HE.out (by omega)).mono ?_
  rintro e w2 ⟨out, rfl, hC⟩
  have hb2 : Below w1.heap.size w1 w2 := hC.choose_spec.2.2.1
  obtain ⟨g, c, rfl, _, _, _⟩ := copies_all hC hE0
  obtain ⟨D, hDl, hE2, hT2, hL2, hr2, hEl2⟩ := copies_live HE1.out hC
  have HB2 := Lib.hid hb2
  have HS2 := Lib.hid (setFirst_any (cap := c) hE2 hL2 hr2 hEl2 hE1)
  rw [hDl] at HS2
  clear hb2 hC hDl hE2 hT2 hL2 hr2 hEl2
  go_wp2_with fail
  refine HS2.out.mono ?_
  rintro e w3 ⟨rfl, s, hE3, hT3⟩
  have HE3 := Lib.hid hE3
  have HT3 := Lib.hid hT3
  clear hE3 hT3
  go_wp2_with (go_at_call 15; refine (copies_zero _ _ _).mono ?_; rintro e w' ⟨rfl, rfl⟩)
  refine (setAlt_none HE3.out).mono ?_
  rintro e w4 ⟨rfl, hE4, hT4⟩
  have HE4 := Lib.hid hE4
  have HT4 := Lib.hid (HT3.out.trans hT4)
  clear hE4 hT4
  go_wp2_with fail
  refine (execute_any (R := LetA K _ F w4) (fun e w h => ⟨_, h.1⟩) n (HE4.out.cell 6) (HE4.out.cell 33) (HG.out K _ w4 HMM.out HE4.out rfl rfl rfl rfl rfl HO1.out)).mono ?_
  rintro e w5 ⟨rfl, V', hE5, hT5⟩
  have HE5 := Lib.hid hE5
  have HT5 := Lib.hid hT5
  clear hE5 hT5
  go_wp2_with (go_at_call 13; refine (kindOf_nil _).mono ?_; rintro e w' ⟨rfl, rfl⟩)
  refine (gs_any HE5.out hF0 hF1).mono ?_
  rintro e w6 ⟨rfl, hb6, hc6⟩
  have HB6 := Lib.hid hb6
  have HC6 := Lib.hid hc6
  have HE6 := Lib.hid (HE5.out.put (V' := V') rfl rfl ((hb6.block K.e HE5.out.lt).trans HE5.out.blk) ((kept_of_below hb6).mono fun k hk => hk.1)).1
  clear hb6 hc6
  go_wp2_with fail
  refine (copies_many HC6.out (fun k hk => Nat.lt_of_lt_of_le hk HB6.out.size) HF.out (by omega)).mono ?_
  rintro e w7 ⟨out, rfl, hC⟩
  have hb7 : Below w6.heap.size w6 w7 := hC.choose_spec.2.2.1
  obtain ⟨g7, c7, rfl, hc7, hm7, hA7⟩ := copies_all hC hF0
  have HB7 := Lib.hid hb7
  have HA7 := Lib.hid hA7
  have HE7 := Lib.hid (HE6.out.put (V' := V') rfl rfl ((hb7.block K.e HE6.out.lt).trans HE6.out.blk) ((kept_of_below hb7).mono fun k hk => hk.1)).1
  clear hb7 hC hA7
  go_wp2_with fail
  refine (ga_none HE7.out).mono ?_
  rintro e w8 ⟨⟨q, m, rfl⟩, hb8⟩
  have HB8 := Lib.hid hb8
  clear hb8
  go_wp2_with (go_at_call 15; refine (copies_zero _ _ _).mono ?_; rintro e w' ⟨rfl, rfl⟩)
  refine bodyPost_ret (v := .tuple #[.int .i64 0, .slice (some ⟨g7, 0, none⟩) F.length c7, .slice none 0 0]) (by simp [results, Tryz.results9, go_sem]) rfl ?_
  exact ⟨g7, c7, _, rfl, hc7, hm7, HA7.out _ (kept_of_below HB8.out), over_below HB0.out HB1.out HGE.out HB2.out HT4.out HT5.out (HB6.out.trans ((HB7.out.mono HB6.out.size).trans (HB8.out.mono (Nat.le_trans HB6.out.size HB7.out.size))))⟩
end Go.Proofs.YtaohcejbjeaemaaGreatDoor

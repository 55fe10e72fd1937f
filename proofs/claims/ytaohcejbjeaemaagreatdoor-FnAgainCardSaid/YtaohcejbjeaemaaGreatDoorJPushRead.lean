import Derived.Test.YtaohcejbjeaemaaGreatDoorJBaseMem
import Derived.Deep.QuietTactic
import Derived.BigQuiet
namespace Go.Proofs.YtaohcejbjeaemaaGreatDoor
open Go Go.RowKit

set_option maxHeartbeats 400000 in
set_option maxRecDepth 100000 in
theorem push_any {M : Nat → Prop} {b o : Nat} {T : TypeId} {c : Array Value} {w : World} {dv : Value} {D : List Value} (h : StkIn M b o T c w dv D) (p : Option Addr) (n cc : Nat) (hD : D.length ≤ 1000000) :
    Calls Tryz.prog 41 #[.pointer (some ⟨b, o, none⟩), .slice p n cc] w fun e w' => e = .returned (.tuple #[]) ∧ StkPost M b o T c w w' (D ++ [.slice p n cc]) := by
  obtain ⟨i0, hi, hz0, hz1, hz2⟩ := info_parts info_sl
  have hc : w.cell? ⟨b, o, none⟩ = some dv := by rw [cell_at h.blk, h.cell]
  have H := Lib.hid h
  have hR := Lib.hid (h.row.alloc (.cells #[.slice p n cc] 25))
  clear h
  go_enter Tryz.func41, Tryz.ntmps41
  go_wp2_with (at_builtin; refine wpList_append_row rfl _ _ 22 rfl i0 Tryz.underlying22 hi hz0 hz1 hz2 _ D rfl hR.out ⟨w.heap.size, 0, none⟩ 1 1 [.slice p n cc] rfl rfl ?c1 ?c2 ?c3 ?_)
  case c1 =>
    intro j u hj
    match j, hj with
    | 0, hj => simp at hj; subst hj; simp [Addr.add]
  case c2 => intro u hu; simp at hu; subst hu; rfl
  case c3 => omega
  intro v' w1 hown hwhere hg
  have hb := H.out.blk
  have hb1 : w1.heap[b]? = some (.cells c T (0, 0)) := by
    rw [hg.block b (by have := lt_of_block hb; simp; omega) (fun e => H.out.nb e.symm)]
    exact block_alloc hb _
  have hc1 : w1.cell? ⟨b, o, none⟩ = some dv := by rw [cell_at hb1, H.out.cell]
  have hf1 : w1.frozen? ⟨b, o, none⟩ = false := free_at hb1 o
  have hform : ∃ q m k, v' = .slice q m k := by
    rcases hown.form with ⟨rfl, _⟩ | ⟨g, cap, cur, rfl, _⟩
    · exact ⟨_, _, _, rfl⟩
    · exact ⟨_, _, _, rfl⟩
  obtain ⟨q, m, k, rfl⟩ := hform
  have hnb : (Value.slice q m k).ownBlock ≠ some b := by
    rcases hwhere with e | ⟨k', e, hk⟩
    · rw [e]; exact H.out.nb
    · rw [e]; have := lt_of_block hb; intro e'; cases e'; omega
  have hnM : ∀ g, (Value.slice q m k).ownBlock = some g → ¬ M g := by
    intro g hg' hMg
    rcases hwhere with e | ⟨k', e, hk⟩
    · exact H.out.nM g (e ▸ hg') hMg
    · rw [e] at hg'; cases hg'; have := H.out.lt _ hMg; omega
  have HB := Lib.hid (show StkPost M b o T c w (w1.setCell ⟨b, o, none⟩ (.slice q m k)) (D ++ [.slice p n cc]) from
    ⟨_, block_setCell hb1 _ _, hown.setCell hnb _, hnb, hnM,
      (((Kept.refl M w).alloc H.out.lt _).grown hg (fun k hk => by have := H.out.lt k hk; simp; omega) H.out.nM).setCell H.out.nMb _⟩)
  clear hb hb1 hown hc hwhere hnb hnM hg
  go_wp2_with fail
  go_end0
  exact ⟨rfl, HB.out⟩
end Go.Proofs.YtaohcejbjeaemaaGreatDoor
namespace Go.Proofs.YtaohcejbjeaemaaGreatDoor
open Go Go.RowKit

/-- The element at place j of a stack's row, as a cell. -/
theorem Row.cellAt {w : World} {g : Nat} {cur : Array Value} {D : List Value} (hg : w.heap[g]? = some (.cells cur 25 (0, 0))) (h4 : cur.toList.take D.length = D) (j : Nat) (x : Value) (hj : D[j]? = some x) : w.cell? ⟨g, j, none⟩ = some x := by
  rw [cell_at hg, ← Array.getElem?_toList]
  have hlt := (List.getElem?_eq_some_iff.1 hj).1
  have e : (cur.toList.take D.length)[j]? = some x := by rw [h4]; exact hj
  rw [List.getElem?_take, if_pos hlt] at e
  exact e

/-- A row that is cut shorter: it still owns what is left. -/
theorem Row.cut {w : World} {g cap : Nat} {cur : Array Value} {D E : List Value} (hg : w.heap[g]? = some (.cells cur 25 (0, 0))) (h1 : (D ++ E).length ≤ cap) (h2 : cap ≤ maxLen) (h3 : cur.size = cap) (h4 : cur.toList.take (D ++ E).length = D ++ E) : Row w (.slice (some ⟨g, 0, none⟩) D.length cap) D := by
  refine Row.mk hg (by simp at h1; omega) h2 h3 ?_
  have e := congrArg (List.take D.length) h4
  rw [List.take_take, List.take_left] at e
  rw [← e]
  simp

set_option maxHeartbeats 400000 in
set_option maxRecDepth 100000 in
theorem nip_zero {M : Nat → Prop} {b o : Nat} {T : TypeId} {c : Array Value} {w : World} {dv : Value} {D : List Value} {p : Option Addr} {m k : Nat} (h : StkIn M b o T c w dv (D ++ [.slice p m k])) (hD : D.length ≤ 1000000) :
    Calls Tryz.prog 82 #[.pointer (some ⟨b, o, none⟩), .int .i32 0] w fun e w' => e = .returned (.tuple #[.slice p m k, .nilIface]) ∧ StkPost M b o T c w w' D := by
  rcases h.row.form with ⟨_, h0⟩ | ⟨g, cap, cur, rfl, hg, h1, h2, h3, h4⟩
  · simp at h0
  have hc : w.cell? ⟨b, o, none⟩ = some (.slice (some ⟨g, 0, none⟩) (D.length + 1) cap) := by rw [cell_at h.blk, h.cell]; simp
  have hf : w.frozen? ⟨b, o, none⟩ = false := free_at h.blk o
  have hx : w.cell? ⟨g, D.length, none⟩ = some (.slice p m k) := Row.cellAt hg h4 _ _ (by simp)
  have hl : D.length + 1 ≤ cap := by simpa using h1
  have H := Lib.hid (show StkPost M b o T c w (w.setCell ⟨b, o, none⟩ (.slice (some ⟨g, 0, none⟩) D.length cap)) D from
    ⟨_, block_setCell h.blk _ _, (Row.cut hg h1 h2 h3 h4).setCell (by simpa [Value.ownBlock] using h.nb) _, by simpa [Value.ownBlock] using h.nb, fun q hq => h.nM q (by simpa [Value.ownBlock] using hq), (Kept.refl M w).setCell h.nMb _⟩)
  unfold maxLen at h2
  clear h h4 h3 hg h1
  go_enter Tryz.func82, Tryz.ntmps82
  go_wp2
  go_ret2
  exact ⟨rfl, H.out⟩

set_option maxHeartbeats 400000 in
set_option maxRecDepth 100000 in
theorem nip_mid {M : Nat → Prop} {b o : Nat} {T : TypeId} {c : Array Value} {w : World} {dv : Value} {X Z : List Value} {p : Option Addr} {m k : Nat} (h : StkIn M b o T c w dv (X ++ .slice p m k :: Z)) (hD : X.length + Z.length ≤ 1000000)
    (hX : 0 < X.length) (hZ : 0 < Z.length) (h1c : ∀ u ∈ Z, u.oneCell' = true) (n : Int) (hn : n = Z.length) :
    Calls Tryz.prog 82 #[.pointer (some ⟨b, o, none⟩), .int .i32 n] w fun e w' => e = .returned (.tuple #[.slice p m k, .nilIface]) ∧ StkPost M b o T c w w' (X ++ Z) := by
  subst hn
  obtain ⟨i0, hi, hz0, hz1, hz2⟩ := info_parts info_sl
  rcases h.row.form with ⟨_, h0⟩ | ⟨g, cap, cur, rfl, hg, h1, h2, h3, h4⟩
  · simp at h0
  generalize hzl : Z.length = z at *
  generalize hxl : X.length = x at *
  have hlen : (X ++ .slice p m k :: Z).length = x + z + 1 := by simp [hzl, hxl]; omega
  rw [hlen] at h1
  have hc : w.cell? ⟨b, o, none⟩ = some (.slice (some ⟨g, 0, none⟩) (x + z + 1) cap) := by rw [cell_at h.blk, h.cell, hlen]
  have hf : w.frozen? ⟨b, o, none⟩ = false := free_at h.blk o
  have hx : w.cell? ⟨g, x + z + 1 - z - 1, none⟩ = some (.slice p m k) := Row.cellAt hg h4 _ _ (by rw [show x + z + 1 - z - 1 = X.length by omega]; simp)
  have n3 : ¬ cap = x + z + 1 - z := by omega
  have HR := Lib.hid (show Row (w.setCell ⟨b, o, none⟩ (.slice (some ⟨g, 0, none⟩) (x + z + 1 - z - 1) cap)) (.slice (some ⟨g, 0, none⟩) (x + z + 1 - z - 1) cap) X from by
    rw [show x + z + 1 - z - 1 = X.length by omega]
    exact (Row.cut hg (by rw [hlen]; exact h1) h2 h3 h4).setCell (by simpa [Value.ownBlock] using h.nb) _)
  have HC := Lib.hid (show ∀ j u, Z[j]? = some u → (w.setCell ⟨b, o, none⟩ (.slice (some ⟨g, 0, none⟩) (x + z + 1 - z - 1) cap)).cell? ((⟨g, x + z + 1 - z, none⟩ : Addr).add j) = some u from by
    intro j u hj
    rw [Addr.add_lit, show x + z + 1 - z + j = X.length + (j + 1) by omega, World.cell?_setCell_other]
    · exact Row.cellAt hg h4 _ _ (by rw [List.getElem?_append_right (by omega)]; simpa using hj)
    · intro e; exact h.nb (by simp at e; simp [Value.ownBlock, e.1]))
  have HH := Lib.hid h
  have h5 := h2
  unfold maxLen at h2
  have A3 := Lib.hid hzl
  have A4 := Lib.hid hxl
  have A5 := Lib.hid hlen
  clear h4 h3 hg h hzl hxl hlen
  go_enter Tryz.func82, Tryz.ntmps82
  go_wp2_with (at_builtin; refine wpList_append_row rfl _ _ 22 rfl i0 Tryz.underlying22 hi hz0 hz1 hz2 _ X rfl HR.out ⟨g, x + z + 1 - z, none⟩ (x + z + 1 - (x + z + 1 - z)) (cap - (x + z + 1 - z)) Z rfl ?c1 ?c2 h1c ?c3 ?_)
  case c1 => rw [A3.out]; omega
  case c2 => exact HC.out
  case c3 => rw [A4.out]; omega
  intro v' w1 hown hwhere hg
  have HO := Lib.hid hown
  have HW := Lib.hid hwhere
  have HGr := Lib.hid hg
  have hb1 : w1.heap[b]? = some (.cells (c.setIfInBounds o (.slice (some ⟨g, 0, none⟩) (x + z + 1 - z - 1) cap)) T (0, 0)) := by
    rw [hg.block b (by have := lt_of_block HH.out.blk; simpa [World.setCell] using this) (fun e => HH.out.nb (by simpa [Value.ownBlock] using e.symm))]
    exact block_setCell HH.out.blk _ _
  have hform : ∃ q m k, v' = .slice q m k := by
    rcases hown.form with ⟨rfl, _⟩ | ⟨g, cap, cur, rfl, _⟩
    · exact ⟨_, _, _, rfl⟩
    · exact ⟨_, _, _, rfl⟩
  obtain ⟨q, m', k', rfl⟩ := hform
  have hnb : (Value.slice q m' k').ownBlock ≠ some b := by
    rcases hwhere with e | ⟨k', e, hk⟩
    · rw [e]; intro e'; exact HH.out.nb (by simpa [Value.ownBlock] using e')
    · rw [e]; have := lt_of_block HH.out.blk; intro e'; cases e'; omega
  have hnM : ∀ g, (Value.slice q m' k').ownBlock = some g → ¬ M g := by
    intro g' hg' hMg
    rcases hwhere with e | ⟨k', e, hk⟩
    · exact HH.out.nM g' (by rw [e] at hg'; simpa [Value.ownBlock] using hg') hMg
    · rw [e] at hg'; cases hg'; have := HH.out.lt _ hMg; omega
  have HB := Lib.hid (show StkPost M b o T c w (w1.setCell ⟨b, o, none⟩ (.slice q m' k')) (X ++ Z) from
    ⟨.slice q m' k', by rw [block_setCell hb1]; simp, hown.setCell hnb _, hnb, hnM,
      (((Kept.refl M w).setCell HH.out.nMb _).grown hg (fun k hk => by have := HH.out.lt k hk; simpa [World.setCell] using this) (fun k hk => HH.out.nM k (by simpa [Value.ownBlock] using hk))).setCell HH.out.nMb _⟩)
  have hc1 : w1.cell? ⟨b, o, none⟩ = some (.slice (some ⟨g, 0, none⟩) (x + z + 1 - z - 1) cap) := by rw [cell_at hb1]; have := HH.out.oc; simp [this]
  have hf1 : w1.frozen? ⟨b, o, none⟩ = false := free_at hb1 o
  clear hb1 hown hwhere hg hnb hnM hc hx
  go_wp2_with fail
  go_ret2
  exact ⟨rfl, HB.out⟩
end Go.Proofs.YtaohcejbjeaemaaGreatDoor
namespace Go.Proofs.YtaohcejbjeaemaaGreatDoor
open Go Go.RowKit

set_option maxHeartbeats 400000 in
theorem depth_any {b o : Nat} {w : World} {p : Option Addr} {n k : Nat} (hc : w.cell? ⟨b, o, none⟩ = some (.slice p n k)) (hn : n ≤ 1000000) :
    Calls Tryz.prog 40 #[.pointer (some ⟨b, o, none⟩)] w fun e w' => e = .returned (.int .i32 n) ∧ w = w' := by
  go_enter Tryz.func40, Tryz.ntmps40
  go_wp2
  go_ret
  exact ⟨rfl, rfl⟩

set_option maxHeartbeats 400000 in
theorem err_any {b o : Nat} {w : World} (hc : w.cell? ⟨b, o + 6, none⟩ = some .nilIface) :
    Calls Tryz.prog 44 #[.pointer (some ⟨b, o, none⟩)] w fun e w' => e = .returned .nilIface ∧ w = w' := by
  go_enter Tryz.func44, Tryz.ntmps44
  go_wp2
  go_ret
  exact ⟨rfl, rfl⟩

set_option maxHeartbeats 400000 in
theorem data_any {b o : Nat} {w : World} {p : Option Addr} {n k : Nat} (hc : w.cell? ⟨b, o + 5, none⟩ = some (.slice p n k)) :
    Calls Tryz.prog 46 #[.pointer (some ⟨b, o, none⟩)] w fun e w' => e = .returned (.slice p n k) ∧ w = w' := by
  go_enter Tryz.func46, Tryz.ntmps46
  go_wp2
  go_ret
  exact ⟨rfl, rfl⟩

set_option maxHeartbeats 400000 in
theorem done_any {b o : Nat} {w : World} {p : Option Addr} {n k : Nat} {off : Int} (hs : w.cell? ⟨b, o, none⟩ = some (.slice p n k)) (hn : n ≤ 1000000) (ho : w.cell? ⟨b, o + 2, none⟩ = some (.int .i32 off)) (he : w.cell? ⟨b, o + 6, none⟩ = some .nilIface) :
    Calls Tryz.prog 47 #[.pointer (some ⟨b, o, none⟩)] w fun e w' => e = .returned (.bool (decide ((n : Int) ≤ off))) ∧ ∃ d, w' = w.drewN d := by
  go_enter Tryz.func47, Tryz.ntmps47
  go_wp2
  go_quiet (fail)
  go_wp2
  go_ret
  exact ⟨rfl, _, rfl⟩

set_option maxHeartbeats 400000 in
theorem hasFlag_any {b : Nat} {w : World} {fl g : Int} (hc : w.cell? ⟨b, 0, none⟩ = some (.int .u32 fl)) :
    Calls Tryz.prog 31 #[.pointer (some ⟨b, 0, none⟩), .int .u32 g] w fun e w' => e = .returned (.bool (bits .and .u32 fl g == g)) ∧ w = w' := by
  go_enter Tryz.func31, Tryz.ntmps31
  go_wp2
  go_ret
  exact ⟨rfl, rfl⟩

set_option maxHeartbeats 400000 in
theorem branch_any {b : Nat} {w : World} (hc : w.cell? ⟨b, 27, none⟩ = some (.slice none 0 0)) :
    Calls Tryz.prog 67 #[.pointer (some ⟨b, 0, none⟩)] w fun e w' => e = .returned (.bool true) ∧ w = w' := by
  go_enter Tryz.func67, Tryz.ntmps67
  go_wp2
  go_ret
  exact ⟨rfl, rfl⟩

set_option maxHeartbeats 400000 in
theorem validPC_any {b : Nat} {w : World} {p : Option Addr} {n k : Nat} {si : Int} (hs : w.cell? ⟨b, 11, none⟩ = some (.slice p n k)) (hi : w.cell? ⟨b, 12, none⟩ = some (.int .i64 si)) (hlt : si < n) :
    Calls Tryz.prog 42 #[.pointer (some ⟨b, 0, none⟩)] w fun e w' => e = .returned .nilIface ∧ ∃ d, w' = w.drewN d := by
  have hd : decide ((n : Int) ≤ si) = false := by simpa using hlt
  go_enter Tryz.func42, Tryz.ntmps42
  go_wp2
  go_quiet (fail)
  go_wp2
  go_ret
  exact ⟨rfl, _, rfl⟩

set_option maxHeartbeats 400000 in
theorem wva_any {b : Nat} {w : World} {v : Int} (hc : w.cell? ⟨b, 30, none⟩ = some (.slice none 0 0)) :
    Calls Tryz.prog 49 #[.pointer (some ⟨b, 0, none⟩), .int .u64 v] w fun e w' => e = .returned (.bool false) ∧ w = w' := by
  have hq := fun (wx : World) (a : Option Addr) (n c n' c' : Nat) => run_neq_slice_nil_any (P := Tryz.prog) wx 25 5 a n c n' c' Tryz.underlying25
  go_enter Tryz.func49, Tryz.ntmps49
  go_wp2
  go_ret
  exact ⟨rfl, rfl⟩
end Go.Proofs.YtaohcejbjeaemaaGreatDoor

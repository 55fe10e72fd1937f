import Derived.Test.YtaohcejbjeaemaaGreatDoorJBaseMem
import Derived.StillTailTactics
import Derived.Deep.QuietTactic
import Derived.BigQuiet
namespace Go.Proofs.YtaohcejbjeaemaaGreatDoor
open Go Go.RowKit

set_option maxHeartbeats 1000000 in
theorem rotate_any (x k : Int) (hk : k = -17 ∨ k = -19 ∨ k = -7 ∨ k = -18 ∨ k = -6 ∨ k = -11 ∨ k = -25 ∨ k = -2 ∨ k = -13 ∨ k = -22) (w : World) :
    Calls Tryz.prog 302 #[.int .u32 x, .int .i64 k] w fun e w' => (∃ y, e = .returned (.int .u32 y)) ∧ w = w' := by
  have e17 : bits .and .u64 (IntKind.u64.wrap (-17)) 31 = 15 := by decide +kernel
  have e19 : bits .and .u64 (IntKind.u64.wrap (-19)) 31 = 13 := by decide +kernel
  have e7 : bits .and .u64 (IntKind.u64.wrap (-7)) 31 = 25 := by decide +kernel
  have e18 : bits .and .u64 (IntKind.u64.wrap (-18)) 31 = 14 := by decide +kernel
  have e6 : bits .and .u64 (IntKind.u64.wrap (-6)) 31 = 26 := by decide +kernel
  have e11 : bits .and .u64 (IntKind.u64.wrap (-11)) 31 = 21 := by decide +kernel
  have e25 : bits .and .u64 (IntKind.u64.wrap (-25)) 31 = 7 := by decide +kernel
  have e2 : bits .and .u64 (IntKind.u64.wrap (-2)) 31 = 30 := by decide +kernel
  have e13 : bits .and .u64 (IntKind.u64.wrap (-13)) 31 = 19 := by decide +kernel
  have e22 : bits .and .u64 (IntKind.u64.wrap (-22)) 31 = 10 := by decide +kernel
  rcases hk with rfl | rfl | rfl | rfl | rfl | rfl | rfl | rfl | rfl | rfl <;>
  · go_enter Tryz.func302, Tryz.ntmps302
    go_wp2
    go_ret
    exact ⟨⟨_, rfl⟩, rfl⟩

/-- Bytes stored one behind the other. -/
def putBytes (w : World) (b : Nat) : Nat → List Int → World
  | _, [] => w
  | o, y :: ys => putBytes (w.setCell ⟨b, o, none⟩ (.int .u8 y)) b (o + 1) ys

def IsByte (w : World) (a : Addr) : Prop := ∃ n, w.cell? a = some (.int .u8 n)

set_option maxHeartbeats 1000000 in
set_option maxRecDepth 100000 in
theorem put32_any {w : World} {b o n k : Nat} {t : TypeId} {c : Array Value} (hb : w.heap[b]? = some (.cells c t (0, 0))) (hn : 4 ≤ n) (hk : n ≤ maxLen) (hc : ∀ i, i < 4 → ∃ y, c[o + i]? = some (.int .u8 y)) (x : Int) :
    Calls Tryz.prog 304 #[.slice (some ⟨b, o, none⟩) n k, .int .u32 x] w fun e w' => e = .returned (.tuple #[]) ∧ ∃ y0 y1 y2 y3 : Int, (∀ y ∈ [y0, y1, y2, y3], 0 ≤ y ∧ y ≤ 255) ∧ w' = putBytes w b o [y0, y1, y2, y3] := by
  obtain ⟨z0, c0⟩ := hc 0 (by decide)
  obtain ⟨z1, c1⟩ := hc 1 (by decide)
  obtain ⟨z2, c2⟩ := hc 2 (by decide)
  obtain ⟨z3, c3⟩ := hc 3 (by decide)
  have d0 : w.cell? ⟨b, o, none⟩ = some (.int .u8 z0) := by rw [cell_at hb]; exact c0
  have d1 : w.cell? ⟨b, o + 1, none⟩ = some (.int .u8 z1) := by rw [cell_at hb]; exact c1
  have d2 : w.cell? ⟨b, o + 2, none⟩ = some (.int .u8 z2) := by rw [cell_at hb]; exact c2
  have d3 : w.cell? ⟨b, o + 3, none⟩ = some (.int .u8 z3) := by rw [cell_at hb]; exact c3
  have hf : ∀ i, w.frozen? ⟨b, i, none⟩ = false := fun i => free_at hb i
  have i0 : (0 : Int) < (n : Int) := by omega
  have i1 : (1 : Int) < (n : Int) := by omega
  have i2 : (2 : Int) < (n : Int) := by omega
  have i3 : (3 : Int) < (n : Int) := by omega
  unfold maxLen at hk
  clear c0 c1 c2 c3 hc hb
  go_enter Tryz.func304, Tryz.ntmps304
  go_wp2_with fail
  go_end0
  exact ⟨rfl, _, _, _, _, by simp; omega, rfl⟩

set_option maxRecDepth 100000 in
theorem put32_over {w : World} {b o n k : Nat} {t : TypeId} {c : Array Value} (hb : w.heap[b]? = some (.cells c t (0, 0))) (hn : 4 ≤ n) (hk : n ≤ maxLen) (hc : ∀ i, i < 4 → ∃ y, c[o + i]? = some (.int .u8 y)) (x : Int) :
    Calls Tryz.prog 301 #[.slice (some ⟨b, o, none⟩) n k, .int .u32 x] w fun e w' => e = .returned (.tuple #[]) ∧ ∃ y0 y1 y2 y3 : Int, (∀ y ∈ [y0, y1, y2, y3], 0 ≤ y ∧ y ≤ 255) ∧ w' = putBytes w b o [y0, y1, y2, y3] := by
  have H := Lib.hid (put32_any (k := k) hb hn hk hc x)
  clear hb hc
  go_enter Tryz.func301, Tryz.ntmps301
  go_wp2_with fail
  refine H.out.mono ?_
  rintro e w1 ⟨rfl, hw⟩
  have HW := Lib.hid hw
  clear hw
  go_wp2_with fail
  go_end0
  exact ⟨rfl, HW.out⟩

set_option maxHeartbeats 2000000 in
set_option maxRecDepth 100000 in
theorem put64_any {w : World} {b o n k : Nat} {t : TypeId} {c : Array Value} (hb : w.heap[b]? = some (.cells c t (0, 0))) (hn : 8 ≤ n) (hk : n ≤ maxLen) (hc : ∀ i, i < 8 → ∃ y, c[o + i]? = some (.int .u8 y)) (x : Int) :
    Calls Tryz.prog 303 #[.slice (some ⟨b, o, none⟩) n k, .int .u64 x] w fun e w' => e = .returned (.tuple #[]) ∧ ∃ y0 y1 y2 y3 y4 y5 y6 y7 : Int, (∀ y ∈ [y0, y1, y2, y3, y4, y5, y6, y7], 0 ≤ y ∧ y ≤ 255) ∧ w' = putBytes w b o [y0, y1, y2, y3, y4, y5, y6, y7] := by
  obtain ⟨z0, c0⟩ := hc 0 (by decide)
  obtain ⟨z1, c1⟩ := hc 1 (by decide)
  obtain ⟨z2, c2⟩ := hc 2 (by decide)
  obtain ⟨z3, c3⟩ := hc 3 (by decide)
  obtain ⟨z4, c4⟩ := hc 4 (by decide)
  obtain ⟨z5, c5⟩ := hc 5 (by decide)
  obtain ⟨z6, c6⟩ := hc 6 (by decide)
  obtain ⟨z7, c7⟩ := hc 7 (by decide)
  have d0 : w.cell? ⟨b, o, none⟩ = some (.int .u8 z0) := by rw [cell_at hb]; exact c0
  have d1 : w.cell? ⟨b, o + 1, none⟩ = some (.int .u8 z1) := by rw [cell_at hb]; exact c1
  have d2 : w.cell? ⟨b, o + 2, none⟩ = some (.int .u8 z2) := by rw [cell_at hb]; exact c2
  have d3 : w.cell? ⟨b, o + 3, none⟩ = some (.int .u8 z3) := by rw [cell_at hb]; exact c3
  have d4 : w.cell? ⟨b, o + 4, none⟩ = some (.int .u8 z4) := by rw [cell_at hb]; exact c4
  have d5 : w.cell? ⟨b, o + 5, none⟩ = some (.int .u8 z5) := by rw [cell_at hb]; exact c5
  have d6 : w.cell? ⟨b, o + 6, none⟩ = some (.int .u8 z6) := by rw [cell_at hb]; exact c6
  have d7 : w.cell? ⟨b, o + 7, none⟩ = some (.int .u8 z7) := by rw [cell_at hb]; exact c7
  have hf : ∀ i, w.frozen? ⟨b, i, none⟩ = false := fun i => free_at hb i
  have i0 : (0 : Int) < (n : Int) := by omega
  have i1 : (1 : Int) < (n : Int) := by omega
  have i2 : (2 : Int) < (n : Int) := by omega
  have i3 : (3 : Int) < (n : Int) := by omega
  have i4 : (4 : Int) < (n : Int) := by omega
  have i5 : (5 : Int) < (n : Int) := by omega
  have i6 : (6 : Int) < (n : Int) := by omega
  have i7 : (7 : Int) < (n : Int) := by omega
  unfold maxLen at hk
  clear c0 c1 c2 c3 c4 c5 c6 c7 hc hb
  go_enter Tryz.func303, Tryz.ntmps303
  go_wp2_with fail
  go_end0
  exact ⟨rfl, _, _, _, _, _, _, _, _, by simp; omega, rfl⟩

set_option maxRecDepth 100000 in
theorem put64_over {w : World} {b o n k : Nat} {t : TypeId} {c : Array Value} (hb : w.heap[b]? = some (.cells c t (0, 0))) (hn : 8 ≤ n) (hk : n ≤ maxLen) (hc : ∀ i, i < 8 → ∃ y, c[o + i]? = some (.int .u8 y)) (x : Int) :
    Calls Tryz.prog 300 #[.slice (some ⟨b, o, none⟩) n k, .int .u64 x] w fun e w' => e = .returned (.tuple #[]) ∧ ∃ y0 y1 y2 y3 y4 y5 y6 y7 : Int, (∀ y ∈ [y0, y1, y2, y3, y4, y5, y6, y7], 0 ≤ y ∧ y ≤ 255) ∧ w' = putBytes w b o [y0, y1, y2, y3, y4, y5, y6, y7] := by
  have H := Lib.hid (put64_any (k := k) hb hn hk hc x)
  clear hb hc
  go_enter Tryz.func300, Tryz.ntmps300
  go_wp2_with fail
  refine H.out.mono ?_
  rintro e w1 ⟨rfl, hw⟩
  have HW := Lib.hid hw
  clear hw
  go_wp2_with fail
  go_end0
  exact ⟨rfl, HW.out⟩
end Go.Proofs.YtaohcejbjeaemaaGreatDoor
namespace Go.Proofs.YtaohcejbjeaemaaGreatDoor
open Go Go.RowKit

/-- A digest's cells: eight words, 64 bytes, how many of them wait, the length, no 224. -/
structure Dig (c : Array Value) (nx : Nat) : Prop where
  size : c.size = 75
  h : ∀ i, i < 8 → ∃ n, c[i]? = some (.int .u32 n)
  x : ∀ i, 8 ≤ i → i < 72 → ∃ n : Int, (0 ≤ n ∧ n ≤ 255) ∧ c[i]? = some (.int .u8 n)
  nx : c[72]? = some (.int .i64 nx)
  len : ∃ n, c[73]? = some (.int .u64 n)
  is : c[74]? = some (.bool false)

theorem getSet {c : Array Value} {i j : Nat} {v : Value} (hi : i < c.size) : (c.setIfInBounds i v)[j]? = if i = j then some v else c[j]? := by
  rw [Array.getElem?_setIfInBounds]
  split
  · rename_i e; subst e; simp
  · rfl

theorem Dig.setH {c : Array Value} {nx : Nat} (d : Dig c nx) (i : Nat) (hi : i < 8) (n : Int) : Dig (c.setIfInBounds i (.int .u32 n)) nx := by
  have hs : i < c.size := by rw [d.size]; omega
  refine ⟨by simp [d.size], fun j hj => ?_, fun j h1 h2 => ?_, ?_, ?_, ?_⟩
  · rw [getSet hs]; split
    · exact ⟨_, rfl⟩
    · exact d.h j hj
  · rw [getSet hs, if_neg (by omega)]; exact d.x j h1 h2
  · rw [getSet hs, if_neg (by omega)]; exact d.nx
  · rw [getSet hs, if_neg (by omega)]; exact d.len
  · rw [getSet hs, if_neg (by omega)]; exact d.is
theorem Dig.setX {c : Array Value} {nx : Nat} (d : Dig c nx) (i : Nat) (hi : 8 ≤ i ∧ i < 72) (n : Int) (hn : 0 ≤ n ∧ n ≤ 255) : Dig (c.setIfInBounds i (.int .u8 n)) nx := by
  have hs : i < c.size := by rw [d.size]; omega
  refine ⟨by simp [d.size], fun j hj => ?_, fun j h1 h2 => ?_, ?_, ?_, ?_⟩
  · rw [getSet hs, if_neg (by omega)]; exact d.h j hj
  · rw [getSet hs]; split
    · exact ⟨_, hn, rfl⟩
    · exact d.x j h1 h2
  · rw [getSet hs, if_neg (by omega)]; exact d.nx
  · rw [getSet hs, if_neg (by omega)]; exact d.len
  · rw [getSet hs, if_neg (by omega)]; exact d.is
theorem Dig.setN {c : Array Value} {nx : Nat} (d : Dig c nx) (m : Nat) : Dig (c.setIfInBounds 72 (.int .i64 m)) m := by
  have hs : 72 < c.size := by rw [d.size]; omega
  refine ⟨by simp [d.size], fun j hj => ?_, fun j h1 h2 => ?_, ?_, ?_, ?_⟩
  · rw [getSet hs, if_neg (by omega)]; exact d.h j hj
  · rw [getSet hs, if_neg (by omega)]; exact d.x j h1 h2
  · rw [getSet hs, if_pos rfl]
  · rw [getSet hs, if_neg (by omega)]; exact d.len
  · rw [getSet hs, if_neg (by omega)]; exact d.is
theorem Dig.setL {c : Array Value} {nx : Nat} (d : Dig c nx) (n : Int) : Dig (c.setIfInBounds 73 (.int .u64 n)) nx := by
  have hs : 73 < c.size := by rw [d.size]; omega
  refine ⟨by simp [d.size], fun j hj => ?_, fun j h1 h2 => ?_, ?_, ?_, ?_⟩
  · rw [getSet hs, if_neg (by omega)]; exact d.h j hj
  · rw [getSet hs, if_neg (by omega)]; exact d.x j h1 h2
  · rw [getSet hs, if_neg (by omega)]; exact d.nx
  · exact ⟨n, by rw [getSet hs, if_pos rfl]⟩
  · rw [getSet hs, if_neg (by omega)]; exact d.is

/-- A digest's block in a world. -/
def DigAt (w : World) (b nx : Nat) : Prop := ∃ c, w.heap[b]? = some (.cells c 281 (0, 0)) ∧ Dig c nx

set_option maxHeartbeats 2000000 in
set_option maxRecDepth 100000 in
theorem reset_any {w : World} {b nx : Nat} (h : DigAt w b nx) :
    Calls Tryz.prog 232 #[.pointer (some ⟨b, 0, none⟩)] w fun e w' => e = .returned (.tuple #[]) ∧ DigAt w' b 0 ∧ Kept (fun k => k ≠ b) w w' ∧ w'.cell? ⟨b, 73, none⟩ = some (.int .u64 0) := by
  obtain ⟨c, hb, d⟩ := h
  have hc : ∀ i, w.cell? ⟨b, i, none⟩ = c[i]? := fun i => cell_at hb i
  have hh : ∀ i, i < 8 → ∃ n, w.cell? ⟨b, i, none⟩ = some (.int .u32 n) := fun i hi => by rw [hc i]; exact d.h i hi
  obtain ⟨n0, d0⟩ := hh 0 (by decide)
  obtain ⟨n1, d1⟩ := hh 1 (by decide)
  obtain ⟨n2, d2⟩ := hh 2 (by decide)
  obtain ⟨n3, d3⟩ := hh 3 (by decide)
  obtain ⟨n4, d4⟩ := hh 4 (by decide)
  obtain ⟨n5, d5⟩ := hh 5 (by decide)
  obtain ⟨n6, d6⟩ := hh 6 (by decide)
  obtain ⟨n7, d7⟩ := hh 7 (by decide)
  obtain ⟨nl, dl⟩ := d.len
  have d72 : w.cell? ⟨b, 72, none⟩ = some (.int .i64 nx) := by rw [hc]; exact d.nx
  have d73 : w.cell? ⟨b, 73, none⟩ = some (.int .u64 nl) := by rw [hc]; exact dl
  have d74 : w.cell? ⟨b, 74, none⟩ = some (.bool false) := by rw [hc]; exact d.is
  have hf : ∀ i, w.frozen? ⟨b, i, none⟩ = false := fun i => free_at hb i
  have HB := Lib.hid hb
  have HD := Lib.hid d
  clear hb hc hh d dl
  go_enter Tryz.func232, Tryz.ntmps232
  go_wp2_with fail
  go_end0
  refine ⟨rfl, ⟨_, block_setCell (block_setCell (block_setCell (block_setCell (block_setCell (block_setCell (block_setCell (block_setCell (block_setCell (block_setCell HB.out 0 _) 1 _) 2 _) 3 _) 4 _) 5 _) 6 _) 7 _) 72 _) 73 _, ?_⟩, ?_, ?_⟩
  · exact (((((((((HD.out.setH 0 (by decide) _).setH 1 (by decide) _).setH 2 (by decide) _).setH 3 (by decide) _).setH 4 (by decide) _).setH 5 (by decide) _).setH 6 (by decide) _).setH 7 (by decide) _).setN 0).setL _
  · exact Kept.setCell (Kept.setCell (Kept.setCell (Kept.setCell (Kept.setCell (Kept.setCell (Kept.setCell (Kept.setCell (Kept.setCell (Kept.setCell (Kept.refl _ w) (fun h => h rfl) _) (fun h => h rfl) _) (fun h => h rfl) _) (fun h => h rfl) _) (fun h => h rfl) _) (fun h => h rfl) _) (fun h => h rfl) _) (fun h => h rfl) _) (fun h => h rfl) _) (fun h => h rfl) _
  · rw [cell_at (block_setCell (block_setCell (block_setCell (block_setCell (block_setCell (block_setCell (block_setCell (block_setCell (block_setCell (block_setCell HB.out 0 _) 1 _) 2 _) 3 _) 4 _) 5 _) 6 _) 7 _) 72 _) 73 _), getSet (by simp [HD.out.size]), if_pos rfl]
end Go.Proofs.YtaohcejbjeaemaaGreatDoor
namespace Go.Proofs.YtaohcejbjeaemaaGreatDoor
open Go Go.RowKit

/-- A digest as it is allocated. -/
def digZero : List Value := List.replicate 8 (.int .u32 0) ++ (List.replicate 64 (.int .u8 0) ++ [.int .i64 0, .int .u64 0, .bool false])
theorem dig_zero : Dig digZero.toArray 0 := by
  refine ⟨rfl, fun i hi => ⟨0, ?_⟩, fun i h1 h2 => ⟨0, by decide, ?_⟩, rfl, ⟨0, rfl⟩, rfl⟩
  · rw [List.getElem?_toArray, digZero, List.getElem?_append_left (by rw [List.length_replicate]; exact hi), List.getElem?_replicate, if_pos hi]
  · rw [List.getElem?_toArray, digZero, List.getElem?_append_right (by rw [List.length_replicate]; exact h1), List.getElem?_append_left (by rw [List.length_replicate, List.length_replicate]; omega), List.getElem?_replicate, if_pos (by rw [List.length_replicate]; omega)]

set_option maxHeartbeats 2000000 in
set_option maxRecDepth 100000 in
theorem newDig_any (w : World) : Calls Tryz.prog 198 #[] w fun e w' => e = .returned (.pointer (some ⟨w.heap.size, 0, none⟩)) ∧ DigAt w' w.heap.size 0 ∧ w'.cell? ⟨w.heap.size, 73, none⟩ = some (.int .u64 0) ∧ Below w.heap.size w w' := by
  go_enter Tryz.func198, Tryz.ntmps198
  go_wp2_with fail
  obtain ⟨w1, hw1⟩ : ∃ w1, w1 = w.alloc (.cells digZero.toArray 281) := ⟨_, rfl⟩
  have hb1 : w1.heap[w.heap.size]? = some (.cells digZero.toArray 281 (0, 0)) := by rw [hw1]; exact block_new _ _
  have hk1 : Below w.heap.size w w1 := by rw [hw1]; exact (Below.refl _ _).alloc (Nat.le_refl _) _
  have hd1 : DigAt w1 w.heap.size 0 := ⟨_, hb1, dig_zero⟩
  rw [show Tryz.zeroCells281 = digZero.toArray from by kernel_rfl, ← hw1]
  have hs1 : w.heap.size < w1.heap.size := lt_of_block hb1
  have HK1 := Lib.hid hk1
  have HD1 := Lib.hid hd1
  clear hw1 hb1 hk1 hd1
  refine (reset_any HD1.out).mono ?_
  rintro e w2 ⟨rfl, hd2, hk2, h73⟩
  have hB2 : Below w.heap.size w w2 := Kept.below ((kept_of_below HK1.out).trans (hk2.mono fun k hk => Nat.ne_of_lt hk))
  have HD2 := Lib.hid hd2
  have HB2 := Lib.hid hB2
  have H73 := Lib.hid h73
  clear hd2 hk2 hB2 h73
  go_wp2_with fail
  go_ret
  exact ⟨rfl, HD2.out, H73.out, HB2.out⟩

set_option maxRecDepth 100000 in
theorem newHash_any (w : World) : Calls Tryz.prog 154 #[] w fun e w' => e = .returned (.iface 223 (.pointer (some ⟨w.heap.size, 0, none⟩))) ∧ DigAt w' w.heap.size 0 ∧ w'.cell? ⟨w.heap.size, 73, none⟩ = some (.int .u64 0) ∧ Below w.heap.size w w' := by
  go_enter Tryz.func154, Tryz.ntmps154
  go_wp2_with fail
  refine (newDig_any w).mono ?_
  rintro e w2 ⟨rfl, hd2, h73, hB2⟩
  have HD2 := Lib.hid hd2
  have HB2 := Lib.hid hB2
  have H73 := Lib.hid h73
  clear hd2 hB2 h73
  go_wp2_with fail
  go_ret
  exact ⟨rfl, HD2.out, H73.out, HB2.out⟩
end Go.Proofs.YtaohcejbjeaemaaGreatDoor

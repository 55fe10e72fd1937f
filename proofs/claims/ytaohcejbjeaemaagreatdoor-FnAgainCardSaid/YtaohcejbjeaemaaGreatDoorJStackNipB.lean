import Derived.Test.YtaohcejbjeaemaaGreatDoorJPushRead
import Derived.OwnWalk
import Derived.Laws.CopyOwn
namespace Go.Proofs.YtaohcejbjeaemaaGreatDoor
open Go Go.RowKit

/-- What a failing call leaves: an error of that code, and memory only made. -/
def Fails (code : Int) (w : World) (e : Ending) (w' : World) : Prop := ∃ s : ByteArray, e = .returned (.iface 71 (.agg #[.int .i64 code, .string s])) ∧ Below w.heap.size w w'

theorem scriptError_any (c : Int) (s : ByteArray) (w : World) : Calls Tryz.prog 30 #[.int .i64 c, .string s] w fun e w' => e = .returned (.agg #[.int .i64 c, .string s]) ∧ w.alloc (.cells #[.int .i64 c, .string s] 71) = w' := by
  go_enter Tryz.func30, Tryz.ntmps30
  go_wp2
  exact bodyPost_ret (v := .agg #[.int .i64 c, .string s]) (by simp [results, Tryz.results30, go_sem]) rfl ⟨rfl, rfl⟩

set_option maxHeartbeats 400000 in
theorem pop_any {M : Nat → Prop} {b o : Nat} {T : TypeId} {c : Array Value} {w : World} {dv : Value} {D : List Value} {p : Option Addr} {m k : Nat} (h : StkIn M b o T c w dv (D ++ [.slice p m k])) (hD : D.length ≤ 1000000) :
    Calls Tryz.prog 61 #[.pointer (some ⟨b, o, none⟩)] w fun e w' => e = .returned (.tuple #[.slice p m k, .nilIface]) ∧ StkPost M b o T c w w' D := by
  have H := Lib.hid h
  clear h
  go_enter Tryz.func61, Tryz.ntmps61
  go_wp2_with (go_at_call 82; refine (nip_zero H.out hD).mono ?_; rintro e w' ⟨rfl, hq⟩; have HQ := Lib.hid hq; clear hq)
  go_ret2
  exact ⟨rfl, HQ.out⟩

set_option maxHeartbeats 400000 in
set_option maxRecDepth 100000 in
theorem peek_any {b o : Nat} {w : World} {g n cap : Nat} {p : Option Addr} {m k : Nat} (hc : w.cell? ⟨b, o, none⟩ = some (.slice (some ⟨g, 0, none⟩) n cap)) (hn : n ≤ 1000000) (j : Int) (i : Nat) (hj : j = i) (hi : i < n) (hx : w.cell? ⟨g, n - i - 1, none⟩ = some (.slice p m k)) :
    Calls Tryz.prog 51 #[.pointer (some ⟨b, o, none⟩), .int .i32 j] w fun e w' => e = .returned (.tuple #[.slice p m k, .nilIface]) ∧ w = w' := by
  subst hj
  have h1 : (0 : Int) ≤ n - i - 1 := by omega
  go_enter Tryz.func51, Tryz.ntmps51
  go_wp2
  go_ret2
  exact ⟨rfl, rfl⟩

set_option maxHeartbeats 400000 in
theorem asBool_one {M : Nat → Prop} {w : World} {x : Value} (hx : Elem M w x [1]) :
    Calls Tryz.prog 75 #[x] w fun e w' => e = .returned (.bool true) ∧ w = w' := by
  obtain ⟨p, c, rfl, h1, h2, h3, h4, h5⟩ := hx
  obtain ⟨b, o, rfl, hM, hc⟩ := h5 (by simp)
  have hb : w.cell? ⟨b, o, none⟩ = some (.int .u8 1) := by simpa using hc 0 (by simp)
  clear hc h5 h4 h3 hM
  simp only [List.length_cons, List.length_nil, Nat.zero_add]
  go_enter Tryz.func75, Tryz.ntmps75
  go_wp2
  refine wp_loop_once ?_
  go_wp2
  go_ret
  exact ⟨rfl, rfl⟩

set_option maxHeartbeats 400000 in
set_option maxRecDepth 100000 in
theorem drop_one {M : Nat → Prop} {b o : Nat} {T : TypeId} {c : Array Value} {w : World} {dv : Value} {D : List Value} {p : Option Addr} {m k : Nat} (h : StkIn M b o T c w dv (D ++ [.slice p m k])) (hD : D.length ≤ 1000000) :
    Calls Tryz.prog 39 #[.pointer (some ⟨b, o, none⟩), .int .i32 1] w fun e w' => e = .returned .nilIface ∧ StkPost M b o T c w w' D := by
  have H := Lib.hid h
  clear h
  go_enter Tryz.func39, Tryz.ntmps39
  go_wp2_with fail
  refine wp_loop_rounds 2 ?_
  rw [rounds_succ]
  go_wp2_with (go_at_call 61; refine (pop_any H.out hD).mono ?_; rintro e w' ⟨rfl, hq⟩; have HQ := Lib.hid hq; clear hq)
  rw [rounds_succ]
  go_wp2
  go_ret
  exact ⟨rfl, HQ.out⟩

set_option maxHeartbeats 400000 in
set_option maxRecDepth 100000 in
theorem drop_zero {b o : Nat} {w : World} :
    Calls Tryz.prog 39 #[.pointer (some ⟨b, o, none⟩), .int .i32 0] w (Fails 28 w) := by
  go_enter Tryz.func39, Tryz.ntmps39
  go_wp2_with (go_at_call 30; refine (scriptError_any _ _ _).mono ?_; rintro e w' ⟨rfl, rfl⟩)
  go_ret
  exact ⟨_, rfl, (Below.refl _ _).alloc (Nat.le_refl _) _⟩
end Go.Proofs.YtaohcejbjeaemaaGreatDoor
namespace Go.Proofs.YtaohcejbjeaemaaGreatDoor
open Go Go.RowKit

theorem splice_whole {α : Type} (L Z : List α) (h : L.length = Z.length) : splice L 0 Z = Z := by
  simp [splice, ← h]

theorem made_row {w w1 : World} {z : Nat} {cu : List Value} (h : w1.ownsRow w.heap.size 25 1 (.slice (some ⟨w.heap.size, 0, none⟩) z z) z (madeCells #[Value.slice none 0 0] z).toList) (hcu : cu = List.replicate z (.slice none 0 0)) :
    w1.heap[w.heap.size]? = some (.cells cu.toArray 25 (0, 0)) := by
  rcases h.2 with ⟨h1, _⟩ | ⟨g, cap, cur, h1, _, hg, h2, h3, h4, h5⟩
  · cases h1
  · simp only [Value.slice.injEq, Option.some.injEq, Addr.mk.injEq] at h1
    obtain ⟨⟨rfl, _⟩, _, rfl⟩ := h1
    rw [hg]
    have e : cur.toList = cu := by
      rw [hcu, ← toList_madeCells_one, ← h5, List.take_of_length_le (by simp; omega)]
    rw [← e]
set_option maxHeartbeats 1000000 in
set_option maxRecDepth 100000 in
theorem nip_bottom {M : Nat → Prop} {b o : Nat} {T : TypeId} {c : Array Value} {w : World} {dv : Value} {Z : List Value} {p : Option Addr} {m k : Nat} (h : StkIn M b o T c w dv (.slice p m k :: Z)) (hD : Z.length ≤ 1000000)
    (hZ : 0 < Z.length) (h1c : ∀ u ∈ Z, u.oneCell' = true) (n : Int) (hn : n = Z.length) :
    Calls Tryz.prog 82 #[.pointer (some ⟨b, o, none⟩), .int .i32 n] w fun e w' => e = .returned (.tuple #[.slice p m k, .nilIface]) ∧ StkPost M b o T c w w' Z := by
  subst hn
  obtain ⟨i0, hi, hz0, hz1, hz2⟩ := info_parts info_sl
  rcases h.row.form with ⟨_, h0⟩ | ⟨g, cap, cur, rfl, hg, h1, h2, h3, h4⟩
  · simp at h0
  obtain ⟨z, hzl⟩ : ∃ z, z = Z.length := ⟨_, rfl⟩
  have hlen : (Value.slice p m k :: Z).length = z + 1 := by simp [hzl]
  rw [← hzl] at hZ hD ⊢
  rw [hlen] at h1
  have hc : w.cell? ⟨b, o, none⟩ = some (.slice (some ⟨g, 0, none⟩) (z + 1) cap) := by rw [cell_at h.blk, h.cell, hlen]
  have hf : w.frozen? ⟨b, o, none⟩ = false := free_at h.blk o
  have hx : w.cell? ⟨g, 0, none⟩ = some (.slice p m k) := Row.cellAt hg h4 _ _ rfl
  have n3 : ¬ (z : Int) < 0 := by omega
  have n4 : ((z : Int) == 0) = false := by simp; omega
  have HC := Lib.hid (show ∀ j u, Z[j]? = some u → w.cell? ((⟨g, 1, none⟩ : Addr).add j) = some u from by
    intro j u hj
    rw [Addr.add_lit]
    exact Row.cellAt hg h4 _ _ (by rw [show 1 + j = j + 1 by omega]; simpa using hj))
  have HH := Lib.hid h
  have lb := lt_of_block h.blk
  have lg := lt_of_block hg
  have h5 := h2
  unfold maxLen at h2
  have A3 := Lib.hid hzl
  clear h4 h3 h hzl hlen
  go_enter Tryz.func82, Tryz.ntmps82
  go_wp2_with (refine wpList_make_full _ rfl _ _ 22 rfl w.heap.size 25 i0 (.slice none 0 0) 1 Tryz.underlying22 hi hz0 hz1 _ _ _ _ z rfl rfl (by omega) (by omega) (by rw [hz2]; omega) (by unfold maxLen; omega) (Nat.le_refl _) ?_)
  intro w1 ho1 hg1
  obtain ⟨cu, hcu⟩ : ∃ cu : List Value, cu = List.replicate z (.slice none 0 0) := ⟨_, rfl⟩
  have hrow1 : w1.heap[w.heap.size]? = some (.cells cu.toArray 25 (0, 0)) := made_row ho1 hcu
  have hb1 : Below w.heap.size w w1 := (Below.refl _ _).grown hg1 (Nat.le_refl _) (by simp)
  have hcl : cu.length = z := by rw [hcu]; simp
  have hc1 : w1.cell? ⟨b, o, none⟩ = some (.slice (some ⟨g, 0, none⟩) (z + 1) cap) := (World.cell?_of_block (a := ⟨b, o, none⟩) (hb1.block b lb)).trans hc
  have hsrc : ∀ j v, Z[j]? = some v → w1.cell? ((⟨g, 1, none⟩ : Addr).add j) = some v := fun j v hj => by
    have := HC.out j v hj
    rw [Addr.add_lit] at this ⊢
    exact (World.cell?_of_block (a := ⟨g, 1 + j, none⟩) (hb1.block g lg)).trans this
  have HR1 := Lib.hid hrow1
  have HB1 := Lib.hid hb1
  have HS1 := Lib.hid hsrc
  have HCL := Lib.hid hcl
  clear hrow1 hb1 hsrc hcl ho1 hg1 hcu hc hx hf
  go_wp2_with (refine wpList_copy_splice rfl _ _ 22 22 rfl 25 Tryz.underlying22 (by rw [hi]; simp [hz1]) (some ⟨w.heap.size, 0, none⟩) (some ⟨g, 1, none⟩) z z z (cap - 1) rfl rfl w.heap.size 0 cu 25 HR1.out Z ?d1 ?d2 ?d3 h1c w.heap.size w HB1.out (Nat.le_refl _) ?_)
  case d1 => rw [← A3.out]; simp
  case d2 => intro _ j v hj; have := HS1.out j v hj; rwa [Addr.add_lit] at this
  case d3 => rw [HCL.out, ← A3.out]; omega
  intro w2 hr2 hb2
  have hc2 : w2.cell? ⟨b, o, none⟩ = some (.slice (some ⟨g, 0, none⟩) (z + 1) cap) := (World.cell?_of_block (a := ⟨b, o, none⟩) (hb2.block b lb)).trans (by rw [cell_at HH.out.blk, HH.out.cell, A3.out]; rfl)
  have hbk : w2.heap[b]? = some (.cells c T (0, 0)) := (hb2.block b lb).trans HH.out.blk
  have hf2 : w2.frozen? ⟨b, o, none⟩ = false := free_at hbk o
  have hr2' : w2.heap[w.heap.size]? = some (.cells Z.toArray 25 (0, 0)) := by rw [hr2.out, splice_whole _ _ (by rw [HCL.out, A3.out])]
  have hnb : (Value.slice (some ⟨w.heap.size, 0, none⟩) z z).ownBlock ≠ some b := by simp [Value.ownBlock]; omega
  have HP := Lib.hid (show StkPost M b o T c w (w2.setCell ⟨b, o, none⟩ (.slice (some ⟨w.heap.size, 0, none⟩) z z)) Z from by
    refine ⟨_, block_setCell hbk _ _, Row.setCell ?_ hnb _, hnb, fun k hk hM => ?_, Kept.setCell ((kept_of_below hb2).mono HH.out.lt) HH.out.nMb _⟩
    · have := Row.mk (D := Z) hr2' (Nat.le_of_eq A3.out.symm) (by unfold maxLen; omega) (by simp [A3.out]) (by simp)
      rw [← A3.out] at this
      exact this
    · have := HH.out.lt k hM
      simp [Value.ownBlock] at hk
      omega)
  clear hr2 hb2 hr2' hbk hnb HR1 HB1 HS1 hc1
  go_wp2_with fail
  go_ret2
  exact ⟨rfl, HP.out⟩
end Go.Proofs.YtaohcejbjeaemaaGreatDoor

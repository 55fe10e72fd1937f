import Derived.Test.YtaohcejbjeaemaaGreatDoorJNew
import Derived.Test.YtaohcejbjeaemaaGreatDoorJBaseMem
import Derived.Test.YtaohcejbjeaemaaGreatDoorJStackNipB
import Derived.Deep.RegionHeld3
import Derived.LoopN
namespace Go.Proofs.YtaohcejbjeaemaaGreatDoor
open Go Go.RowKit

abbrev z8 : Value := .int .u8 0
/-- The output that no transaction has. -/
abbrev prev0 : Array Value := #[z8, z8, z8, z8, z8, z8, z8, z8, z8, z8, z8, z8, z8, z8, z8, z8, z8, z8, z8, z8, z8, z8, z8, z8, z8, z8, z8, z8, z8, z8, z8, z8, .int .u32 0]

/-- A whole struct into the block that was made last, its number given. -/
theorem wpList_store_at {P : Program} {ops : Array Oper} {rest : List Oper} {op : Oper} {a : Act} {w : World} {Q : Exit → Act → World → Prop} (hgd : op.guard = none) (ty : TypeId) (x y : Operand) (ho : op.op = .store ty x y) (b : Nat) (hb : w.heap.size = b)
    (c c' : Array Value) (hx : a.eval x = .pointer (some ⟨b, 0, none⟩)) (hy : a.eval y = .agg c') (hs : c.size = c'.size) (hi : (P.info? ty).map (·.size) = some c'.size) (h1 : c'.all (·.oneCell') = true)
    (h : wpList P ops Q rest (a.put op.dst undef) (w.alloc (.cells c' ty))) : wpList P ops Q (op :: rest) a (w.alloc (.cells c ty)) := by
  subst hb
  exact wpList_store_new hgd ty x y ho c c' hx hy hs hi h1 h

theorem rangeAt_head {w : World} {b : Nat} {t : TypeId} {fr : Nat × Nat} {cs ds : List Value} (hb : w.heap[b]? = some (.cells (cs ++ ds).toArray t fr)) : w.rangeAt b 0 cs := fun j v hv => by
  rw [Nat.zero_add, cell_of_row w b j _ t fr hb]
  have := (List.getElem?_eq_some_iff.1 hv).1
  simp only [List.getElem?_toArray, List.getElem?_append, this, if_true]
  exact hv

abbrev hash0 : List Value := [z8, z8, z8, z8, z8, z8, z8, z8, z8, z8, z8, z8, z8, z8, z8, z8, z8, z8, z8, z8, z8, z8, z8, z8, z8, z8, z8, z8, z8, z8, z8, z8]

set_option maxHeartbeats 2000000 in
set_option maxRecDepth 100000 in
theorem outPoint_any (w : World) : Calls Tryz.prog 37 #[.agg prev0] w fun e w' => e = .returned (.agg prev0) ∧ Below w.heap.size w w' := by
  go_enter Tryz.func37, Tryz.ntmps37
  go_upto_region 1 with (fail)
  obtain ⟨w1, hw1⟩ : ∃ w1, w1 = w.alloc (.cells prev0 55) := ⟨_, rfl⟩
  obtain ⟨w2, hw2⟩ : ∃ w2, w2 = w1.alloc (.cells prev0 101) := ⟨_, rfl⟩
  have hs1 : w1.heap.size = w.heap.size + 1 := by rw [hw1]; simp
  have hb1 : w1.heap[w.heap.size]? = some (.cells prev0 55 (0, 0)) := by rw [hw1]; exact block_new _ _
  have hb2 : w2.heap[w.heap.size]? = some (.cells prev0 55 (0, 0)) := by rw [hw2]; exact block_alloc hb1 _
  have hr : w2.rangeAt w.heap.size 0 hash0 := rangeAt_head (ds := [.int .u32 0]) hb2
  have hi32 : w2.cell? ⟨w.heap.size, 32, none⟩ = some (.int .u32 0) := by rw [cell_at hb2]; rfl
  have hwB : Below w.heap.size w w1 := by rw [hw1]; exact (Below.refl _ _).alloc (Nat.le_refl _) _
  rw [← hw1]
  change Code.wp _ _ _ _ (w1.alloc (.cells prev0 101))
  rw [← hw2]
  have HW2 := Lib.hid hw2
  have HS1 := Lib.hid hs1
  clear hw1 hw2 hb1 hb2 hs1
  have HR := Lib.hid hr
  clear hr
  iterate 4 (first | go_values | go_skip | go_guarded | go_step | go_upon)
  refine wpList_load_mid rfl 53 _ rfl w.heap.size 0 rfl hash0 _ HR.out Tryz.underlying53 rfl (by kernel_rfl) ?_
  iterate 9 (first | go_values | go_skip | go_guarded | go_step | go_upon)
  rw [HW2.out]
  refine wpList_store_at rfl 101 _ _ rfl (w.heap.size + 1) HS1.out prev0 prev0 rfl rfl rfl (by kernel_rfl) (by simp [Value.oneCell']) ?_
  go_wp2_with fail
  exact bodyPost_ret (v := .agg prev0) (results_cell_row Tryz.results37 _ _ (w.heap.size + 1) _ prev0 (0, 0) _ rfl (block_new_at _ _ _ HS1.out) Tryz.underlying101 rfl (by kernel_rfl)) rfl ⟨rfl, hwB.alloc (by rw [HS1.out]; omega) _⟩
end Go.Proofs.YtaohcejbjeaemaaGreatDoor
namespace Go.Proofs.YtaohcejbjeaemaaGreatDoor
open Go Go.RowKit

theorem below_down {A B : Nat} {w w' : World} (h : Below B w w') (hl : A ≤ B) : Below A w w' := ⟨h.os, h.tape, h.output, h.size, fun k hk => h.block k (Nat.lt_of_lt_of_le hk hl)⟩

theorem canned_any (p : Option Addr) (n k : Nat) (amt : Int) (w : World) : Calls Tryz.prog 38 #[.slice p n k, .int .i64 amt] w fun e w' =>
    e = .returned (.pointer (some ⟨w.heap.size, 0, none⟩)) ∧ w.alloc (.cells #[.slice p n k, .int .i64 amt] 138) = w' := by
  go_enter Tryz.func38, Tryz.ntmps38
  go_wp2
  go_ret
  exact ⟨rfl, rfl⟩

set_option maxHeartbeats 2000000 in
set_option maxRecDepth 100000 in
theorem fetcher_any {M : Nat → Prop} {w : World} {x : Value} {bs : List Int} (hx : Elem M w x bs) (hM : ∀ k, M k → k < w.heap.size) (hl : bs.length ≤ 100000) (amt ver lock rules : Int) {pi : Option Addr} {ni ci : Nat} {po : Option Addr} {no co : Nat} :
    Calls Tryz.prog 24 #[.agg #[x, .int .i64 amt, .int .i32 ver, .slice pi ni ci, .slice po no co, .int .u32 lock, .int .i64 0, .int .u32 rules]] w fun e w' =>
      (∃ a : Addr, e = .returned (.iface 115 (.pointer (some a)))) ∧ Below w.heap.size w w' := by
  obtain ⟨p, k, rfl, h1⟩ := hx
  have hx : Elem M w (.slice p bs.length k) bs := ⟨p, k, rfl, h1⟩
  clear h1
  have HX := Lib.hid hx
  clear hx
  go_enter Tryz.func24, Tryz.ntmps24
  go_wp2_with fail
  obtain ⟨w1, hw1⟩ : ∃ w1, w1 = w.alloc (.cells #[.slice p bs.length k, .int .i64 amt, .int .i32 ver, .slice pi ni ci, .slice po no co, .int .u32 lock, .int .i64 0, .int .u32 rules] 41) := ⟨_, rfl⟩
  have hb1 : w1.heap[w.heap.size]? = some (.cells #[.slice p bs.length k, .int .i64 amt, .int .i32 ver, .slice pi ni ci, .slice po no co, .int .u32 lock, .int .i64 0, .int .u32 rules] 41 (0, 0)) := by rw [hw1]; exact block_new _ _
  have hk1 : Below w.heap.size w w1 := by rw [hw1]; exact (Below.refl _ _).alloc (Nat.le_refl _) _
  have hk1' : Kept M w w1 := (kept_of_below hk1).mono hM
  have hx1 : Elem M w1 (.slice p bs.length k) bs := HX.out.kept hk1'
  have hM1 : ∀ k, M k → k < w1.heap.size := hk1'.lt hM
  have c0 : w1.cell? ⟨w.heap.size, 0, none⟩ = some (.slice p bs.length k) := by rw [cell_at hb1]; rfl
  have c1 : w1.cell? ⟨w.heap.size, 1, none⟩ = some (.int .i64 amt) := by rw [cell_at hb1]; rfl
  have hlt1 : w.heap.size < w1.heap.size := lt_of_block hb1
  rw [← hw1]
  have HX1 := Lib.hid hx1
  have HM1 := Lib.hid hM1
  have HK1 := Lib.hid hk1
  clear hw1 hb1 hk1' hx1 hM1 hk1
  go_region_held3 (fun w' => w'.cell? ⟨w.heap.size, 0, none⟩ = some (.slice p bs.length k) ∧ w'.cell? ⟨w.heap.size, 1, none⟩ = some (.int .i64 amt)) (first | exact ⟨c0, c1⟩ | exact ⟨by assumption, by assumption⟩)
    (first
      | (go_at_call 22; refine (copied_any (HX1.out.kept (Kept.refl _ _).drew) HM1.out (by omega)).mono ?_; rintro e w2 ⟨v, rfl, hb, he⟩; obtain ⟨vp, vc, rfl, _⟩ := he; have c0' := (World.cell?_of_block (a := ⟨w.heap.size, 0, none⟩) (hb.block w.heap.size hlt1)).trans c0; have c1' := (World.cell?_of_block (a := ⟨w.heap.size, 1, none⟩) (hb.block w.heap.size hlt1)).trans c1; have hlt2 := Nat.lt_of_lt_of_le hlt1 hb.size)
      | (go_at_call 38; refine (canned_any _ _ _ _ _).mono ?_; rintro e w3 ⟨rfl, hw3⟩; have hb3 := (Below.refl w2.heap.size w2).alloc (Nat.le_refl _) (.cells #[.slice vp bs.length vc, .int .i64 amt] 138); rw [hw3] at hb3; have c0'' := (World.cell?_of_block (a := ⟨w.heap.size, 0, none⟩) (hb3.block w.heap.size hlt2)).trans c0'; have c1'' := (World.cell?_of_block (a := ⟨w.heap.size, 1, none⟩) (hb3.block w.heap.size hlt2)).trans c1'))
  have HB := Lib.hid hb
  have HB3 := Lib.hid hb3
  clear hb hb3 hw3 c0'' c1'' c0' c1'
  go_wp2_with fail
  go_ret
  exact ⟨⟨_, rfl⟩, HK1.out.trans ((below_down ((Below.refl _ _).drew) (Nat.le_refl _)).trans ((below_down HB.out (Nat.le_of_lt hlt1)).trans (below_down HB3.out (Nat.le_of_lt hlt2))))⟩
end Go.Proofs.YtaohcejbjeaemaaGreatDoor
namespace Go.Proofs.YtaohcejbjeaemaaGreatDoor
open Go Go.RowKit

theorem copies_zero (p : Option Addr) (k : Nat) (w : World) : Calls Tryz.prog 15 #[.slice p 0 k] w fun e w' => e = .returned (.slice none 0 0) ∧ w = w' := by
  go_enter Tryz.func15, Tryz.ntmps15
  go_wp2_with fail
  refine wp_loop_once ?_
  go_wp2_with fail
  go_ret
  exact ⟨rfl, rfl⟩

theorem kindOf_nil (w : World) : Calls Tryz.prog 13 #[.nilIface] w fun e w' => e = .returned (.int .i64 0) ∧ w = w' := by
  go_enter Tryz.func13, Tryz.ntmps13
  go_wp2
  go_ret
  exact ⟨rfl, rfl⟩

set_option maxRecDepth 100000 in
theorem kindOf_57 (x : ByteArray) (w : World) : Calls Tryz.prog 13 #[.iface 71 (.agg #[.int .i64 57, .string x])] w fun e w' => e = .returned (.int .i64 58) ∧ Below w.heap.size w w' := by
  have hta : ∀ w : World, Sem.run Tryz.prog (Instr.typeAssert (.iface 71 (.agg #[.int .i64 57, .string x])) 45 71 true) w = .ok (.tuple #[.agg #[.int .i64 57, .string x], .bool true]) w := fun w => by kernel_rfl
  go_enter Tryz.func13, Tryz.ntmps13
  go_wp2_with fail
  go_ret
  exact ⟨rfl, (Below.refl _ _).alloc (Nat.le_refl _) _⟩

set_option maxRecDepth 100000 in
theorem getStack_zero {b o : Nat} {w : World} {p : Option Addr} {k : Nat} (hc : w.cell? ⟨b, o, none⟩ = some (.slice p 0 k)) :
    Calls Tryz.prog 29 #[.pointer (some ⟨b, o, none⟩)] w fun e w' => (∃ q m, e = .returned (.slice q 0 m)) ∧ Below w.heap.size w w' := by
  have hmk : ∀ w : World, (Instr.makeSlice 22 (.int .i32 0) (.int .i32 0)).run Tryz.prog w = .ok (.slice (some ⟨w.heap.size, 0, none⟩) 0 0) (w.alloc (.cells #[] 25)) := fun w => by kernel_rfl
  go_enter Tryz.func29, Tryz.ntmps29
  go_wp2_with (go_at_call 40; refine (depth_any (n := 0) hc (by decide)).mono ?_; rintro e w' ⟨rfl, rfl⟩)
  refine wp_loop_once ?_
  go_wp2_with fail
  go_ret
  exact ⟨⟨_, _, rfl⟩, (Below.refl _ _).alloc (Nat.le_refl _) _⟩

set_option maxHeartbeats 1000000 in
set_option maxRecDepth 100000 in
theorem getStack_one {b o : Nat} {w : World} {g k : Nat} {pp : Option Addr} {m mk : Nat} (hc : w.cell? ⟨b, o, none⟩ = some (.slice (some ⟨g, 0, none⟩) 1 k)) (hg : w.cell? ⟨g, 0, none⟩ = some (.slice pp m mk)) :
    Calls Tryz.prog 29 #[.pointer (some ⟨b, o, none⟩)] w fun e w' => e = .returned (.slice (some ⟨w.heap.size, 0, none⟩) 1 1) ∧ Below w.heap.size w w' ∧ w'.cell? ⟨w.heap.size, 0, none⟩ = some (.slice pp m mk) := by
  have hmk : ∀ w : World, (Instr.makeSlice 22 (.int .i32 1) (.int .i32 1)).run Tryz.prog w = .ok (.slice (some ⟨w.heap.size, 0, none⟩) 1 1) (w.alloc (.cells #[.slice none 0 0] 25)) := fun w => by kernel_rfl
  have lb := World.block_lt_of_cell? _ _ hc
  have lg := World.block_lt_of_cell? _ _ hg
  go_enter Tryz.func29, Tryz.ntmps29
  go_wp2_with (go_at_call 40; refine (depth_any (n := 1) hc (by decide)).mono ?_; rintro e w' ⟨rfl, rfl⟩)
  obtain ⟨w1, hw1⟩ : ∃ w1, w1 = w.alloc (.cells #[.slice none 0 0] 25) := ⟨_, rfl⟩
  have hb1 : w1.heap[w.heap.size]? = some (.cells #[.slice none 0 0] 25 (0, 0)) := by rw [hw1]; exact block_new _ _
  have hk1 : Below w.heap.size w w1 := by rw [hw1]; exact (Below.refl _ _).alloc (Nat.le_refl _) _
  have hc1 := (World.cell?_of_block (a := ⟨b, o, none⟩) (hk1.block b lb)).trans hc
  have hg1 := (World.cell?_of_block (a := ⟨g, 0, none⟩) (hk1.block g lg)).trans hg
  have cn : w1.cell? ⟨w.heap.size, 0, none⟩ = some (.slice none 0 0) := by rw [cell_at hb1]; rfl
  have fn : w1.frozen? ⟨w.heap.size, 0, none⟩ = false := free_at hb1 0
  rw [← hw1]
  have HB1 := Lib.hid hb1
  have HK1 := Lib.hid hk1
  clear hb1 hk1 hc hg hmk hw1
  refine wp_loop_rounds 2 ?_
  rw [rounds_succ]
  go_wp2_with (go_at_call 51; refine (peek_any (n := 1) hc1 (by decide) _ 0 rfl (by decide) hg1).mono ?_; rintro e w' ⟨rfl, rfl⟩)
  rw [rounds_succ]
  go_wp2_with fail
  go_ret
  refine ⟨rfl, Kept.below ((kept_of_below HK1.out).setCell (p := ⟨w.heap.size, 0, none⟩) (Nat.lt_irrefl _) _), ?_⟩
  rw [cell_at (block_setCell HB1.out 0 _)]; rfl

set_option maxHeartbeats 1000000 in
set_option maxRecDepth 100000 in
theorem copies_one {M : Nat → Prop} {w : World} {g k : Nat} {x : Value} {bs : List Int} (hc : w.cell? ⟨g, 0, none⟩ = some x) (hx : Elem M w x bs) (hM : ∀ k, M k → k < w.heap.size) (hl : bs.length ≤ 100000) :
    Calls Tryz.prog 15 #[.slice (some ⟨g, 0, none⟩) 1 k] w fun e w' => (∃ v, e = .returned v) ∧ Below w.heap.size w w' := by
  obtain ⟨i0, hi, hz0, hz1, hz2⟩ := info_parts info_sl
  obtain ⟨p, xk, rfl, h1⟩ := hx
  have hx : Elem M w (.slice p bs.length xk) bs := ⟨p, xk, rfl, h1⟩
  clear h1
  have HX := Lib.hid hx
  clear hx
  go_enter Tryz.func15, Tryz.ntmps15
  go_wp2_with fail
  refine wp_loop_rounds 2 ?_
  rw [rounds_succ]
  go_wp2_with (go_at_call 22; refine (copied_any HX.out hM (by omega)).mono ?_; rintro e w1 ⟨v, rfl, hb, he⟩; obtain ⟨vp, vc, rfl, _⟩ := he)
  rw [rounds_succ]
  have HB := Lib.hid hb
  clear hb
  go_wp2_with fail
  go_ret
  exact ⟨⟨_, rfl⟩, HB.out.trans (((((Below.refl w.heap.size _).alloc HB.out.size _).alloc (by simp; have := HB.out.size; omega) _)).drew)⟩
end Go.Proofs.YtaohcejbjeaemaaGreatDoor

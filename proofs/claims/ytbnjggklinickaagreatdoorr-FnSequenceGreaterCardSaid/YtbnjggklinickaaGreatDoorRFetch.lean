import Derived.Test.YtbnjggklinickaaGreatDoorROutP
import Derived.Test.YtbnjggklinickaaGreatDoorRMem
namespace Go.Proofs.YtbnjggklinickaaGreatDoorR
open Go Go.RowKit

theorem below_down {A B : Nat} {w w' : World} (h : Below B w w') (hl : A ≤ B) : Below A w w' := ⟨h.os, h.tape, h.output, h.size, fun k hk => h.block k (Nat.lt_of_lt_of_le hk hl)⟩

theorem canned_any (p : Option Addr) (n k : Nat) (amt : Int) (w : World) : Calls Tryz.prog 30 #[.slice p n k, .int .i64 amt] w fun e w' =>
    e = .returned (.pointer (some ⟨w.heap.size, 0, none⟩)) ∧ w.alloc (.cells #[.slice p n k, .int .i64 amt] 134) = w' := by
  go_enter Tryz.func30, Tryz.ntmps30
  go_wp2
  go_ret
  exact ⟨rfl, rfl⟩
#print axioms canned_any

set_option maxHeartbeats 2000000 in
set_option maxRecDepth 100000 in
theorem fetcher_any {M : Nat → Prop} {w : World} {x : Value} {bs : List Int} (hx : Elem M w x bs) (hM : ∀ k, M k → k < w.heap.size) (hl : bs.length ≤ 100000) (amt ver lock rules : Int) {pi : Option Addr} {ni ci : Nat} {po : Option Addr} {no co : Nat} :
    Calls Tryz.prog 17 #[.agg #[x, .int .i64 amt, .int .i32 ver, .slice pi ni ci, .slice po no co, .int .u32 lock, .int .i64 0, .int .u32 rules]] w fun e w' =>
      (∃ a : Addr, e = .returned (.iface 110 (.pointer (some a)))) ∧ Below w.heap.size w w' := by
  obtain ⟨p, k, rfl, h1⟩ := hx
  have hx : Elem M w (.slice p bs.length k) bs := ⟨p, k, rfl, h1⟩
  clear h1
  have HX := Lib.hid hx
  clear hx
  go_enter Tryz.func17, Tryz.ntmps17
  go_wp2_with fail
  obtain ⟨w1, hw1⟩ : ∃ w1, w1 = w.alloc (.cells #[.slice p bs.length k, .int .i64 amt, .int .i32 ver, .slice pi ni ci, .slice po no co, .int .u32 lock, .int .i64 0, .int .u32 rules] 33) := ⟨_, rfl⟩
  have hb1 : w1.heap[w.heap.size]? = some (.cells #[.slice p bs.length k, .int .i64 amt, .int .i32 ver, .slice pi ni ci, .slice po no co, .int .u32 lock, .int .i64 0, .int .u32 rules] 33 (0, 0)) := by rw [hw1]; exact block_new _ _
  have hk1 : Below w.heap.size w w1 := by rw [hw1]; exact (Below.refl _ _).alloc (Nat.le_refl _) _
  have hk1' : Kept M w w1 := (kept_of_below hk1).mono hM
  have hx1 : Elem M w1 (.slice p bs.length k) bs := HX.out.kept hk1'
  have hM1 : ∀ k, M k → k < w1.heap.size := hk1'.lt hM
  have c0 : w1.cell? ⟨w.heap.size, 0, none⟩ = some (.slice p bs.length k) := by rw [cell_at hb1]; rfl
  have c1 : w1.cell? ⟨w.heap.size, 1, none⟩ = some (.int .i64 amt) := by rw [cell_at hb1]; rfl
  have hlt1 : w.heap.size < w1.heap.size := lt_of_block hb1
  rw [← hw1]
  have HX1 := Lib.hid hx1
  have HM1 := Lib.hid hM1
  have HK1 := Lib.hid hk1
  clear hw1 hb1 hk1' hx1 hM1 hk1
  go_region_held3 (fun w' => w'.cell? ⟨w.heap.size, 0, none⟩ = some (.slice p bs.length k) ∧ w'.cell? ⟨w.heap.size, 1, none⟩ = some (.int .i64 amt)) (first | exact ⟨c0, c1⟩ | exact ⟨by assumption, by assumption⟩)
    (first
      | (go_at_call 15; refine (copied_any (HX1.out.kept (Kept.refl _ _).drew) HM1.out (by omega)).mono ?_; rintro e w2 ⟨v, rfl, hb, he⟩; obtain ⟨vp, vc, rfl, _⟩ := he; have c0' := (World.cell?_of_block (a := ⟨w.heap.size, 0, none⟩) (hb.block w.heap.size hlt1)).trans c0; have c1' := (World.cell?_of_block (a := ⟨w.heap.size, 1, none⟩) (hb.block w.heap.size hlt1)).trans c1; have hlt2 := Nat.lt_of_lt_of_le hlt1 hb.size)
      | (go_at_call 30; refine (canned_any _ _ _ _ _).mono ?_; rintro e w3 ⟨rfl, hw3⟩; have hb3 := (Below.refl w2.heap.size w2).alloc (Nat.le_refl _) (.cells #[.slice vp bs.length vc, .int .i64 amt] 134); rw [hw3] at hb3; have c0'' := (World.cell?_of_block (a := ⟨w.heap.size, 0, none⟩) (hb3.block w.heap.size hlt2)).trans c0'; have c1'' := (World.cell?_of_block (a := ⟨w.heap.size, 1, none⟩) (hb3.block w.heap.size hlt2)).trans c1'))
  have HB := Lib.hid hb
  have HB3 := Lib.hid hb3
  clear hb hb3 hw3 c0'' c1'' c0' c1'
  go_wp2_with fail
  go_ret
  exact ⟨⟨_, rfl⟩, HK1.out.trans ((below_down ((Below.refl _ _).drew) (Nat.le_refl _)).trans ((below_down HB.out (Nat.le_of_lt hlt1)).trans (below_down HB3.out (Nat.le_of_lt hlt2))))⟩
#print axioms fetcher_any
end Go.Proofs.YtbnjggklinickaaGreatDoorR

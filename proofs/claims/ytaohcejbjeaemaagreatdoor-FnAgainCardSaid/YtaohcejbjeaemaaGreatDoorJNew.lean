import Derived.Test.YtaohcejbjeaemaaGreatDoorJExecuteAParse
import Derived.Test.YtaohcejbjeaemaaGreatDoorJNextEngA
import Derived.Deep.Cut
import Derived.Deep.MidRow
import Derived.Deep.WholeRow
namespace Go.Proofs.YtaohcejbjeaemaaGreatDoor
open Go Go.RowKit

/-- None of the flags that make the engine more. -/
structure NoFlags (fl : Int) : Prop where
  f1 : (bits .and .u32 fl 1 == 1) = false
  f32 : (bits .and .u32 fl 32 == 32) = false
  f256 : (bits .and .u32 fl 256 == 256) = false
  f1024 : (bits .and .u32 fl 1024 == 1024) = false
  f4096 : (bits .and .u32 fl 4096 == 4096) = false

theorem noFlags_16 : NoFlags 16 := by constructor <;> decide
theorem noFlags_0 : NoFlags 0 := by constructor <;> decide

/-- A whole struct into the block that was made last. -/
theorem wpList_store_new {P : Program} {ops : Array Oper} {rest : List Oper} {op : Oper} {a : Act} {w : World} {Q : Exit → Act → World → Prop} (hgd : op.guard = none) (ty : TypeId) (x y : Operand) (ho : op.op = .store ty x y)
    (c c' : Array Value) (hx : a.eval x = .pointer (some ⟨w.heap.size, 0, none⟩)) (hy : a.eval y = .agg c') (hs : c.size = c'.size) (hi : (P.info? ty).map (·.size) = some c'.size) (h1 : c'.all (·.oneCell') = true)
    (h : wpList P ops Q rest (a.put op.dst undef) (w.alloc (.cells c' ty))) : wpList P ops Q (op :: rest) a (w.alloc (.cells c ty)) :=
  wpList_plain hgd fun _ hK => by
    unfold Oper.wp execOp
    simp only [ho, hx, hy, Instr.storeAt, Instr.sureAddr, Sem.run_bind, Sem.run_pure, Result.andThen_ok, run_storeVar_new w ty c c' hi hs h1]
    exact hK _ _ h

/-- An engine as it is made. -/
def engZero (fl amount : Int) (fetch : Value) : Array Value :=
  #[.int .u32 fl, .int .i32 0, .slice none 0 0, .slice none 0 0, .int .u32 0, .int .i64 0, .int .u16 0, .bool false, .pointer none, .pointer none, fetch, .slice none 0 0, .int .i64 0, .int .i64 0, .int .i64 0,
    .slice none 0 0, .int .u16 0, .int .i32 0, .int .i32 0, .pointer none, .slice none 0 0, .nilIface, .slice none 0 0, .slice none 0 0, .bool false, .slice none 0 0, .bool false, .slice none 0 0, .int .i64 0, .int .i64 0, .slice none 0 0, .int .i64 amount, .pointer none, .nilFunc]

set_option maxHeartbeats 4000000 in
set_option maxRecDepth 100000 in
theorem new_any {w : World} {sb so cap : Nat} {bs : List Int} {x : Value} (hxv : x = .slice (some ⟨sb, so, none⟩) bs.length cap) (hx : Elem (fun k => k < w.heap.size) w x bs) (hs : Script bs 0) (hl : 0 < bs.length ∧ bs.length ≤ 10000)
    {m tx ti txc : Nat} {ver lock fl amount : Int} {txout fetch sig : Value} {sp : Option Addr} {sk : Nat} (hsig : sig = .slice sp 0 sk) (hsige : Elem (fun k => k < w.heap.size) w sig []) (hfl : NoFlags fl)
    (m0 : w.cell? ⟨m, 0, none⟩ = some (.int .i32 ver)) (m1 : w.cell? ⟨m, 1, none⟩ = some (.slice (some ⟨tx, 0, none⟩) 1 txc)) (m2 : w.cell? ⟨m, 2, none⟩ = some txout) {xo : Option Addr} {no co : Nat} (ho : txout = .slice xo no co) (m3 : w.cell? ⟨m, 3, none⟩ = some (.int .u32 lock))
    (t0 : w.cell? ⟨tx, 0, none⟩ = some (.pointer (some ⟨ti, 0, none⟩))) (i33 : w.cell? ⟨ti, 33, none⟩ = some sig) (ft : TypeId) (fa : Addr) (hft : fetch = .iface ft (.pointer (some fa))) :
    Calls Tryz.prog 21 #[x, .pointer (some ⟨m, 0, none⟩), .int .i64 0, .int .u32 fl, .pointer none, .pointer none, .int .i64 amount, fetch] w fun e w' =>
      ∃ b scs : Nat, e = .returned (.tuple #[.pointer (some ⟨b, 0, none⟩), .nilIface]) ∧ w.heap.size ≤ b ∧ Below w.heap.size w w' ∧
        Eng { e := b, flags := fl, ver := ver, txin := .slice (some ⟨tx, 0, none⟩) 1 txc, txout := txout, lock := lock, fetch := fetch, scs := scs, scap := 2, sb := sb, so := so, L := bs.length, cap := cap, amount := amount, mem := fun a v => a.block < w.heap.size ∧ w.cell? a = some v }
          { si := 1, oi := 0, off := 0, pos := -1, op := .pointer none, dat := .slice none 0 0, stk := .slice none 0 0, nops := 0 } [] w' := by
  subst hxv hsig hft ho
  obtain ⟨f1, f32, f256, f1024, f4096⟩ := hfl
  obtain ⟨hl0, hl1⟩ := hl
  have hflag : ∀ wx : World, ∀ g, wx.cell? ⟨w.heap.size, 0, none⟩ = some (.int .u32 fl) → (bits .and .u32 fl g == g) = false → Calls Tryz.prog 31 #[.pointer (some ⟨w.heap.size, 0, none⟩), .int .u32 g] wx fun e w' => e = .returned (.bool false) ∧ wx = w' := by
    intro wx g hc hg
    have := hasFlag_any (g := g) hc
    rw [hg] at this
    exact this
  have HX := Lib.hid hx
  have HSE := Lib.hid hsige
  have HS := Lib.hid hs
  have HF := Lib.hid hflag
  clear hx hsige hs hflag
  go_enter Tryz.func21, Tryz.ntmps21
  go_upto_region 7 with (fail)
  iterate 22 (first | go_values | go_skip | go_guarded | go_step | go_upon)
  refine wpList_store_new rfl 90 _ _ rfl _ _ rfl rfl (by rfl) (by kernel_rfl) (by simp [Value.oneCell']) ?_
  obtain ⟨w1, hw1⟩ : ∃ w1, w1 = w.alloc (.cells (engZero fl amount (.iface ft (.pointer (some fa)))) 90) := ⟨_, rfl⟩
  have hb1 : w1.heap[w.heap.size]? = some (.cells (engZero fl amount (.iface ft (.pointer (some fa)))) 90 (0, 0)) := by rw [hw1]; exact block_new _ _
  have hk1 : Kept (fun k => k < w.heap.size) w w1 := by rw [hw1]; exact (Kept.refl _ _).alloc (fun _ h => h) _
  have hs1 : w1.heap.size = w.heap.size + 1 := by rw [hw1]; simp
  have hw2 := hw1.symm
  simp only [engZero] at hw2
  rw [hw2]
  clear hw1 hw2
  have lm := World.block_lt_of_cell? _ _ m0
  have lt := World.block_lt_of_cell? _ _ t0
  have li := World.block_lt_of_cell? _ _ i33
  have m0' := (hk1.cell (p := ⟨m, 0, none⟩) lm).trans m0
  have m1' := (hk1.cell (p := ⟨m, 1, none⟩) lm).trans m1
  have m2' := (hk1.cell (p := ⟨m, 2, none⟩) lm).trans m2
  have m3' := (hk1.cell (p := ⟨m, 3, none⟩) lm).trans m3
  have t0' := (hk1.cell (p := ⟨tx, 0, none⟩) lt).trans t0
  have i33' := (hk1.cell (p := ⟨ti, 33, none⟩) li).trans i33
  have c0 : w1.cell? ⟨w.heap.size, 0, none⟩ = some (.int .u32 fl) := by rw [cell_at hb1]; rfl
  have M0 := Lib.hid m0
  have M1 := Lib.hid m1
  have M2 := Lib.hid m2
  have M3 := Lib.hid m3
  clear m0 m1 m2 m3 t0 i33
  have HB1 := Lib.hid hb1
  have HK1 := Lib.hid hk1
  have HS1 := Lib.hid hs1
  clear hb1 hk1 hs1
  go_wp2_with (go_at_call 31; refine (HF.out _ _ c0 (by assumption)).mono ?_; rintro e w' ⟨rfl, rfl⟩)
  generalize hsc : w1.heap.size = s
  obtain ⟨w2, hw2⟩ : ∃ w2, w2 = w1.alloc (.cells #[.slice sp 0 sk, .slice (some ⟨sb, so, none⟩) bs.length cap] 25) := ⟨_, rfl⟩
  have hb2 : w2.heap[w.heap.size]? = some (.cells (engZero fl amount (.iface ft (.pointer (some fa)))) 90 (0, 0)) := by rw [hw2]; exact block_alloc HB1.out _
  have hk2 : Kept (fun k => k < w.heap.size) w w2 := by rw [hw2]; exact HK1.out.alloc (fun k hk => by rw [HS1.out]; omega) _
  have hs2 : w2.heap.size = w.heap.size + 2 := by rw [hw2]; simp [HS1.out]
  have hsb : w2.heap[s]? = some (.cells #[.slice sp 0 sk, .slice (some ⟨sb, so, none⟩) bs.length cap] 25 (0, 0)) := by rw [hw2]; exact block_new_at _ _ _ hsc
  have hse : s = w.heap.size + 1 := by rw [← hsc]; exact HS1.out
  rw [← hw2]
  have s0 : w2.cell? ⟨s, 0, none⟩ = some (.slice sp 0 sk) := by rw [cell_at hsb]; rfl
  have s1 : w2.cell? ⟨s, 1, none⟩ = some (.slice (some ⟨sb, so, none⟩) bs.length cap) := by rw [cell_at hsb]; rfl
  have H1 := parses_any (HSE.out.kept hk2) (fun k hk => by rw [hs2]; exact Nat.lt_trans hk (by omega)) (Nat.zero_le _) .done
  have HP1 := Lib.hid H1
  have HB2 := Lib.hid hb2
  have HK2 := Lib.hid hk2
  have HS2 := Lib.hid hs2
  have HSB := Lib.hid hsb
  have HSEQ := Lib.hid hse
  clear hw2 hb2 hk2 hs2 hsb hse hsc HB1 HK1 HS1 H1 m0' m1' m2' m3' t0' i33' c0
  refine wp_loop_rounds 3 ?_
  rw [rounds_succ]
  go_wp2_with fail
  refine HP1.out.mono ?_
  rintro e w3 ⟨rfl, hb⟩
  have hb3 := (hb.block w.heap.size (by rw [HS2.out]; omega)).trans HB2.out
  have hsb3 := (hb.block s (by rw [HS2.out, HSEQ.out]; omega)).trans HSB.out
  have hk3 : Kept (fun k => k < w.heap.size) w w3 := HK2.out.trans ((kept_of_below hb).mono fun k hk => by rw [HS2.out]; omega)
  have hs3 : w.heap.size + 2 ≤ w3.heap.size := by rw [← HS2.out]; exact hb.size
  have s1' : w3.cell? ⟨s, 1, none⟩ = some (.slice (some ⟨sb, so, none⟩) bs.length cap) := by rw [cell_at hsb3]; rfl
  have HP2 := Lib.hid (parses_any (HX.out.kept hk3) (fun k hk => Nat.lt_of_lt_of_le hk (by omega)) hl1 HS.out)
  have HB3 := Lib.hid hb3
  have HK3 := Lib.hid hk3
  have HS3 := Lib.hid hs3
  have HSB3 := Lib.hid hsb3
  clear hb hb3 hk3 hs3 hsb3 HB2 HK2 HS2 HSB s0 s1 HP1
  go_wp2_with fail
  rw [rounds_succ]
  go_wp2_with fail
  refine HP2.out.mono ?_
  rintro e w4 ⟨rfl, hb⟩
  have hb4 := (hb.block w.heap.size (by have := HS3.out; omega)).trans HB3.out
  have hsb4 := (hb.block s (by have := HS3.out; have := HSEQ.out; omega)).trans HSB3.out
  have hk4 : Kept (fun k => k < w.heap.size) w w4 := HK3.out.trans ((kept_of_below hb).mono fun k hk => by have := HS3.out; omega)
  have hs4 : w.heap.size + 2 ≤ w4.heap.size := Nat.le_trans HS3.out hb.size
  have s1 : w4.cell? ⟨s, 1, none⟩ = some (.slice (some ⟨sb, so, none⟩) bs.length cap) := by rw [cell_at hsb4]; rfl
  have c0 : w4.cell? ⟨w.heap.size, 0, none⟩ = some (.int .u32 fl) := by rw [cell_at hb4]; rfl
  have c1 : w4.cell? ⟨w.heap.size, 1, none⟩ = some (.int .i32 0) := by rw [cell_at hb4]; rfl
  have c2 : w4.cell? ⟨w.heap.size, 2, none⟩ = some (.slice none 0 0) := by rw [cell_at hb4]; rfl
  have c3 : w4.cell? ⟨w.heap.size, 3, none⟩ = some (.slice none 0 0) := by rw [cell_at hb4]; rfl
  have c4 : w4.cell? ⟨w.heap.size, 4, none⟩ = some (.int .u32 0) := by rw [cell_at hb4]; rfl
  have c5 : w4.cell? ⟨w.heap.size, 5, none⟩ = some (.int .i64 0) := by rw [cell_at hb4]; rfl
  have c11 : w4.cell? ⟨w.heap.size, 11, none⟩ = some (.slice none 0 0) := by rw [cell_at hb4]; rfl
  have c12 : w4.cell? ⟨w.heap.size, 12, none⟩ = some (.int .i64 0) := by rw [cell_at hb4]; rfl
  have c15 : w4.cell? ⟨w.heap.size, 15, none⟩ = some (.slice none 0 0) := by rw [cell_at hb4]; rfl
  have c16 : w4.cell? ⟨w.heap.size, 16, none⟩ = some (.int .u16 0) := by rw [cell_at hb4]; rfl
  have c17 : w4.cell? ⟨w.heap.size, 17, none⟩ = some (.int .i32 0) := by rw [cell_at hb4]; rfl
  have c18 : w4.cell? ⟨w.heap.size, 18, none⟩ = some (.int .i32 0) := by rw [cell_at hb4]; rfl
  have c19 : w4.cell? ⟨w.heap.size, 19, none⟩ = some (.pointer none) := by rw [cell_at hb4]; rfl
  have c20 : w4.cell? ⟨w.heap.size, 20, none⟩ = some (.slice none 0 0) := by rw [cell_at hb4]; rfl
  have c21 : w4.cell? ⟨w.heap.size, 21, none⟩ = some (.nilIface) := by rw [cell_at hb4]; rfl
  have hf : ∀ i, w4.frozen? ⟨w.heap.size, i, none⟩ = false := fun i => free_at hb4 i
  have n1 : ¬ w.heap.size = s := by rw [HSEQ.out]; omega
  have n1' : ¬ s = w.heap.size := by rw [HSEQ.out]; omega
  have n2 : ¬ w.heap.size = m := by omega
  have n2' : ¬ m = w.heap.size := by omega
  have n3 : s < w4.heap.size := World.block_lt_of_cell? _ _ s1
  have m0' := (hk4.cell (p := ⟨m, 0, none⟩) lm).trans M0.out
  have m1' := (hk4.cell (p := ⟨m, 1, none⟩) lm).trans M1.out
  have m2' := (hk4.cell (p := ⟨m, 2, none⟩) lm).trans M2.out
  have m3' := (hk4.cell (p := ⟨m, 3, none⟩) lm).trans M3.out
  have HB4 := Lib.hid hb4
  have HK4 := Lib.hid hk4
  have HS4 := Lib.hid hs4
  have HSB4 := Lib.hid hsb4
  clear hb hb4 hk4 hs4 hsb4 HB3 HK3 HS3 HSB3 s1' HP2
  go_wp2_with fail
  rw [rounds_succ]
  have c0' : ((w4.setCell ⟨w.heap.size, 11, none⟩ (.slice (some ⟨s, 0, none⟩) 2 2)).setCell ⟨w.heap.size, 12, none⟩ (.int .i64 1)).cell? ⟨w.heap.size, 0, none⟩ = some (.int .u32 fl) := by
    rw [World.cell?_setCell_other _ _ _ _ (by simp), World.cell?_setCell_other _ _ _ _ (by simp)]; exact c0
  go_wp2_with (go_at_call 31; refine (HF.out _ _ c0' (by assumption)).mono ?_; rintro e w' ⟨rfl, rfl⟩)
  refine (mkTok_any _ _ _ _).mono ?_
  rintro e w5 ⟨rfl, hw5⟩
  have hb5 := block_alloc (block_setCell (block_setCell HB4.out 11 (.slice (some ⟨s, 0, none⟩) 2 2)) 12 (.int .i64 1)) (.cells (tokCells (.slice (some ⟨sb, so, none⟩) bs.length cap)) 84)
  have hk5 : Kept (fun k => k < w.heap.size) w ((((w4.setCell ⟨w.heap.size, 11, none⟩ (.slice (some ⟨s, 0, none⟩) 2 2)).setCell ⟨w.heap.size, 12, none⟩ (.int .i64 1))).alloc (.cells (tokCells (.slice (some ⟨sb, so, none⟩) bs.length cap)) 84)) :=
    ((HK4.out.setCell (p := ⟨w.heap.size, 11, none⟩) (Nat.lt_irrefl _) _).setCell (p := ⟨w.heap.size, 12, none⟩) (Nat.lt_irrefl _) _).alloc (fun k hk => by simp only [World.size_setCell]; have := HS4.out; omega) _
  rw [hw5] at hb5 hk5
  clear c0 c1 c2 c3 c4 c5 c11 c12 c15 c16 c17 c18 c19 c20 c21 hf n1 n1' n3 s1 c0' hw5 m0' m1' m2' m3'
  have c1 : w5.cell? ⟨w.heap.size, 1, none⟩ = some (.int .i32 0) := by rw [cell_at hb5]; rfl
  have c2 : w5.cell? ⟨w.heap.size, 2, none⟩ = some (.slice none 0 0) := by rw [cell_at hb5]; rfl
  have c3 : w5.cell? ⟨w.heap.size, 3, none⟩ = some (.slice none 0 0) := by rw [cell_at hb5]; rfl
  have c4 : w5.cell? ⟨w.heap.size, 4, none⟩ = some (.int .u32 0) := by rw [cell_at hb5]; rfl
  have c5 : w5.cell? ⟨w.heap.size, 5, none⟩ = some (.int .i64 0) := by rw [cell_at hb5]; rfl
  have c15 : w5.cell? ⟨w.heap.size, 15, none⟩ = some (.slice none 0 0) := by rw [cell_at hb5]; rfl
  have c16 : w5.cell? ⟨w.heap.size, 16, none⟩ = some (.int .u16 0) := by rw [cell_at hb5]; rfl
  have c17 : w5.cell? ⟨w.heap.size, 17, none⟩ = some (.int .i32 0) := by rw [cell_at hb5]; rfl
  have c18 : w5.cell? ⟨w.heap.size, 18, none⟩ = some (.int .i32 0) := by rw [cell_at hb5]; rfl
  have c19 : w5.cell? ⟨w.heap.size, 19, none⟩ = some (.pointer none) := by rw [cell_at hb5]; rfl
  have c20 : w5.cell? ⟨w.heap.size, 20, none⟩ = some (.slice none 0 0) := by rw [cell_at hb5]; rfl
  have c21 : w5.cell? ⟨w.heap.size, 21, none⟩ = some (.nilIface) := by rw [cell_at hb5]; rfl
  have hf : ∀ i, w5.frozen? ⟨w.heap.size, i, none⟩ = false := fun i => free_at hb5 i
  have m0' := (hk5.cell (p := ⟨m, 0, none⟩) lm).trans M0.out
  have m1' := (hk5.cell (p := ⟨m, 1, none⟩) lm).trans M1.out
  have m2' := (hk5.cell (p := ⟨m, 2, none⟩) lm).trans M2.out
  have m3' := (hk5.cell (p := ⟨m, 3, none⟩) lm).trans M3.out
  have HB5 := Lib.hid hb5
  have HK5 := Lib.hid hk5
  clear hb5 hk5 HB4 HK4 HS4 HSB4
  go_wp2_with fail
  go_ret2
  have fin : ∀ W, Kept (fun k => k < w.heap.size) w W → W.heap[w.heap.size]? = some (.cells (engCells { e := w.heap.size, flags := fl, ver := ver, txin := .slice (some ⟨tx, 0, none⟩) 1 txc, txout := .slice xo no co, lock := lock, fetch := .iface ft (.pointer (some fa)), scs := s, scap := 2, sb := sb, so := so, L := bs.length, cap := cap, amount := amount, mem := fun a v => a.block < w.heap.size ∧ w.cell? a = some v } { si := 1, oi := 0, off := 0, pos := -1, op := .pointer none, dat := .slice none 0 0, stk := .slice none 0 0, nops := 0 }) 90 (0, 0)) → Below w.heap.size w W ∧ Eng { e := w.heap.size, flags := fl, ver := ver, txin := .slice (some ⟨tx, 0, none⟩) 1 txc, txout := .slice xo no co, lock := lock, fetch := .iface ft (.pointer (some fa)), scs := s, scap := 2, sb := sb, so := so, L := bs.length, cap := cap, amount := amount, mem := fun a v => a.block < w.heap.size ∧ w.cell? a = some v } { si := 1, oi := 0, off := 0, pos := -1, op := .pointer none, dat := .slice none 0 0, stk := .slice none 0 0, nops := 0 } [] W :=
    fun W hk hb => ⟨hk.below, hb, ⟨[], Row.nil _, .nil⟩, by simp [Value.ownBlock], fun a v hm => ⟨⟨Nat.lt_of_lt_of_le hm.1 hk.size, Nat.ne_of_lt hm.1, by simp [Value.ownBlock]⟩, (hk.cell hm.1).trans hm.2⟩⟩
  refine ⟨w.heap.size, s, rfl, Nat.le_refl _, ?_⟩
  refine fin _ ?_ ?_
  · exact ((((((((((((HK5.out.setCell (p := ⟨w.heap.size, 15, none⟩) (Nat.lt_irrefl _) _).setCell (p := ⟨w.heap.size, 16, none⟩) (Nat.lt_irrefl _) _).setCell (p := ⟨w.heap.size, 17, none⟩) (Nat.lt_irrefl _) _).setCell (p := ⟨w.heap.size, 18, none⟩) (Nat.lt_irrefl _) _).setCell (p := ⟨w.heap.size, 19, none⟩) (Nat.lt_irrefl _) _).setCell (p := ⟨w.heap.size, 20, none⟩) (Nat.lt_irrefl _) _).setCell (p := ⟨w.heap.size, 21, none⟩) (Nat.lt_irrefl _) _).setCell (p := ⟨w.heap.size, 1, none⟩) (Nat.lt_irrefl _) _).setCell (p := ⟨w.heap.size, 2, none⟩) (Nat.lt_irrefl _) _).setCell (p := ⟨w.heap.size, 3, none⟩) (Nat.lt_irrefl _) _).setCell (p := ⟨w.heap.size, 4, none⟩) (Nat.lt_irrefl _) _).setCell (p := ⟨w.heap.size, 5, none⟩) (Nat.lt_irrefl _) _)
  · refine Eq.trans (block_setCell (block_setCell (block_setCell (block_setCell (block_setCell (block_setCell (block_setCell (block_setCell (block_setCell (block_setCell (block_setCell (block_setCell HB5.out 15 _) 16 _) 17 _) 18 _) 19 _) 20 _) 21 _) 1 _) 2 _) 3 _) 4 _) 5 _) ?_
    simp only [engZero, engCells, List.setIfInBounds_toArray, List.set_cons_succ, List.set_cons_zero]
    rfl
end Go.Proofs.YtaohcejbjeaemaaGreatDoor

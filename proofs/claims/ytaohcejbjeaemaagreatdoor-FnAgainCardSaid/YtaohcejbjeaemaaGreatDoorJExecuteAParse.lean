import Derived.Test.YtaohcejbjeaemaaGreatDoorJCheckANum
import Derived.Test.YtaohcejbjeaemaaGreatDoorJNextEngA
import Derived.LoopN
import Derived.Deep.QuietTactic
import Derived.BigQuiet
namespace Go.Proofs.YtaohcejbjeaemaaGreatDoor
open Go Go.RowKit

/-- A run of n steps at most, and what it comes to. -/
def Goes (b : Nat) (R : Ending → World → Prop) : Nat → World → Prop
  | 0, _ => False
  | n + 1, w => Calls Tryz.prog 27 #[.pointer (some ⟨b, 0, none⟩)] w fun e w' =>
      (e = .returned (.tuple #[.bool false, .nilIface]) ∧ w'.cell? ⟨b, 33, none⟩ = some .nilFunc ∧ Goes b R n w') ∨
      (e = .returned (.tuple #[.bool true, .nilIface]) ∧ w'.cell? ⟨b, 33, none⟩ = some .nilFunc ∧ Calls Tryz.prog 28 #[.pointer (some ⟨b, 0, none⟩), .bool true] w' R) ∨
      (∃ t x, e = .returned (.tuple #[.bool true, .iface t x]) ∧ R (.returned (.iface t x)) w')

set_option maxHeartbeats 4000000 in
set_option maxRecDepth 100000 in
theorem execute_any {b : Nat} {R : Ending → World → Prop} (hr : ∀ e w, R e w → ∃ v, e = .returned v) (n : Nat) {w : World} (c6 : w.cell? ⟨b, 6, none⟩ = some (.int .u16 0)) (c33 : w.cell? ⟨b, 33, none⟩ = some .nilFunc) (hg : Goes b R n w) :
    Calls Tryz.prog 17 #[.pointer (some ⟨b, 0, none⟩)] w R := by
  have hq : ∀ wx : World, Sem.run Tryz.prog (binOp BinOp.neq 88 .nilFunc .nilFunc) wx = .ok (.bool false) wx := fun wx => by kernel_rfl
  have HG := Lib.hid hg
  clear hg
  go_enter Tryz.func17, Tryz.ntmps17
  go_wp2_with fail
  refine wp_loop_rounds (n + 1) ?_
  cases n with
  | zero => exact HG.out.elim
  | succ n =>
  rw [rounds_succ]
  go_wp2_with fail
  refine HG.out.mono ?_
  clear HG
  rintro e w1 (⟨rfl, c33', hg⟩ | ⟨rfl, c33', hg⟩ | ⟨t, x, rfl, hg⟩)
  · have HG := Lib.hid hg
    clear hg c6 c33
    go_wp2_with fail
    induction n generalizing w1 with
    | zero => exact HG.out.elim
    | succ n ih =>
    rw [rounds_succ]
    have IH := Lib.hid ih
    clear ih
    go_wp2_with fail
    refine HG.out.mono ?_
    clear HG
    rintro e w2 (⟨rfl, c33'', hg⟩ | ⟨rfl, c33'', hg⟩ | ⟨t, x, rfl, hg⟩)
    · have HG := Lib.hid hg
      clear hg
      go_wp2_with fail
      exact IH.out _ c33'' HG
    · have HG := Lib.hid hg
      clear hg
      go_wp2_with fail
      rw [rounds_succ]
      go_wp2_with fail
      refine HG.out.mono ?_
      intro e' w' h
      obtain ⟨v, rfl⟩ := hr _ _ h
      have HR := Lib.hid h
      clear h HG
      go_wp2_with fail
      exact HR.out
    · have HG := Lib.hid hg
      clear hg
      go_wp2_with fail
      exact HG.out
  · have HG := Lib.hid hg
    clear hg
    go_wp2_with fail
    rw [rounds_succ]
    go_wp2_with fail
    refine HG.out.mono ?_
    intro e' w' h
    obtain ⟨v, rfl⟩ := hr _ _ h
    have HR := Lib.hid h
    clear h HG
    go_wp2_with fail
    exact HR.out
  · have HG := Lib.hid hg
    clear hg
    go_wp2_with fail
    exact HG.out
end Go.Proofs.YtaohcejbjeaemaaGreatDoor
namespace Go.Proofs.YtaohcejbjeaemaaGreatDoor
open Go Go.RowKit

set_option maxHeartbeats 2000000 in
set_option maxRecDepth 100000 in
theorem next_data {b o : Nat} {T : TypeId} {c : Array Value} {w : World} {sb so L K off : Nat} {pos v : Int} (h : TokIn b o T c w sb so L K off pos) (n : Nat) (h1 : 1 ≤ n) (h75 : n ≤ 75) (hlt : off + n + 1 ≤ L) (hv : w.cell? ⟨sb, so + off, none⟩ = some (.int .u8 v))
    (hop : ∀ w, Calls Tryz.prog 62 #[.int .u8 v] w (OpMade v ((n + 1 : Nat) : Int) w)) :
    Calls Tryz.prog 43 #[.pointer (some ⟨b, o, none⟩)] w fun e w' => e = .returned (.bool true) ∧ TokPost b o T c v ((n + 1 : Nat) : Int) (off + (n + 1)) (pos + 1) (.slice (some ⟨sb, so + off + 1, none⟩) n (K - off - 1)) w w' := by
  obtain ⟨hb, t0, t2, t3, ⟨v4, t4⟩, ⟨v5, t5⟩, t6, hne, hL, ⟨hp1, hp2⟩, hK1, hK2⟩ := h
  have c0 : w.cell? ⟨b, o, none⟩ = some (.slice (some ⟨sb, so, none⟩) L K) := by rw [cell_at hb, t0]
  have c2 : w.cell? ⟨b, o + 2, none⟩ = some (.int .i32 off) := by rw [cell_at hb, t2]
  have c3 : w.cell? ⟨b, o + 3, none⟩ = some (.int .i32 pos) := by rw [cell_at hb, t3]
  have c4 : w.cell? ⟨b, o + 4, none⟩ = some v4 := by rw [cell_at hb, t4]
  have c5 : w.cell? ⟨b, o + 5, none⟩ = some v5 := by rw [cell_at hb, t5]
  have c6 : w.cell? ⟨b, o + 6, none⟩ = some .nilIface := by rw [cell_at hb, t6]
  have hf : ∀ i, w.frozen? ⟨b, i, none⟩ = false := fun i => free_at hb i
  have hbl : b < w.heap.size := lt_of_block hb
  have hne' : ¬ b = sb := fun e => hne e.symm
  have hsl : sb < w.heap.size := World.block_lt_of_cell? _ _ hv
  have HOP := Lib.hid hop
  have HB := Lib.hid hb
  have hdone : decide ((L : Int) ≤ (off : Int)) = false := by simp; omega
  have hoL : off < L := by omega
  have hm1 : (((n + 1 : Nat) : Int) == 1) = false := by simp; omega
  have hm2 : decide (((n + 1 : Nat) : Int) > 1) = true := by simp; omega
  clear hop hb t0 t2 t3 t4 t5 t6
  go_enter Tryz.func43, Tryz.ntmps43
  go_wp2_with (go_at_call 47; refine (done_any c0 (by omega) c2 c6).mono ?_; rintro e w' ⟨rfl, d, rfl⟩)
  refine wp_region_still_tail 10 (by kernel_rfl) (by kernel_rfl) ?_
  simp only [List.take_succ_cons, List.take_zero, List.drop_succ_cons, List.drop_zero]
  change wpStill _ _ (World.drew _) _ _ _
  repeat still_step
  refine wpStill_nil ?_
  change wpList _ _ _ _ _ (World.drew _)
  go_wp2_with (go_at_call 62; refine (HOP.out _).mono ?_; rintro e w' ⟨s, rfl, rfl⟩)
  go_quiet (fail)
  go_wp2_with fail
  have hw1 : IntKind.i32.wrap ((n : Int) + 1) = (n : Int) + 1 := by rw [IntKind.wrap_i32]; omega
  have hw2 : IntKind.i32.wrap ((off : Int) + ((n : Int) + 1)) = (off : Int) + ((n : Int) + 1) := by rw [IntKind.wrap_i32]; omega
  refine wp_region_still_tail 12 (by kernel_rfl) (by kernel_rfl) ?_
  simp only [List.take_succ_cons, List.take_zero, List.drop_succ_cons, List.drop_zero]
  change wpStill _ _ (World.drew _) _ _ _
  repeat still_step
  refine wpStill_nil ?_
  change wpList _ _ _ _ _ (World.drew _)
  clear hw1 hw2
  go_wp2_with fail
  go_ret
  refine ⟨rfl, w.heap.size, s, Nat.le_refl _, ?_, ?_, ?_⟩
  · refine block_setCell_other (block_setCell_other (block_setCell_other (block_drewN (block_new_at _ _ _ ?_) _) _ _ ?_) _ _ ?_) _ _ ?_
    · simp only [World.size_setCell]; rfl
    all_goals exact Nat.ne_of_lt hbl
  · exact block_setCell (block_setCell (block_setCell (block_drewN (block_alloc (block_setCell (block_drewN HB.out d) _ _) _) _) _ _) _ _) _ _
  · refine Kept.setCell (Kept.setCell (Kept.setCell (Kept.drewN (Kept.alloc (Kept.setCell ((Kept.refl _ w).drewN d) ?_ _) ?_ _) _) ?_ _) ?_ _) ?_ _
    · exact fun h => h.2 rfl
    · intro k hk; simp only [World.size_setCell]; exact hk.1
    all_goals exact fun h => h.2 rfl
end Go.Proofs.YtaohcejbjeaemaaGreatDoor
namespace Go.Proofs.YtaohcejbjeaemaaGreatDoor
open Go Go.RowKit

/-- The tokenizer's cells at its begin. -/
def tokCells (x : Value) : Array Value := #[x, .int .u16 0, .int .i32 0, .int .i32 (-1), .pointer none, .slice none 0 0, .nilIface]

theorem mkTok_any (p : Option Addr) (n k : Nat) (w : World) : Calls Tryz.prog 36 #[.int .u16 0, .slice p n k] w fun e w' =>
    e = .returned (.agg #[.slice p n k, .int .u16 0, .int .i32 0, .int .i32 (-1), .pointer none, .slice none 0 0, .nilIface]) ∧ w.alloc (.cells (tokCells (.slice p n k)) 84) = w' := by
  go_enter Tryz.func36, Tryz.ntmps36
  go_wp2
  exact bodyPost_ret (v := .agg #[.slice p n k, .int .u16 0, .int .i32 0, .int .i32 (-1), .pointer none, .slice none 0 0, .nilIface]) (by simp [results, Tryz.results36, go_sem]) rfl ⟨rfl, rfl⟩

/-- A script's tokens from a place on: opcodes of one byte, and pushes of 1 to 75 bytes. -/
inductive Script (bs : List Int) : Nat → Prop where
  | done : Script bs bs.length
  | one {off : Nat} (v : Int) : bs[off]? = some v → (∀ w, Calls Tryz.prog 62 #[.int .u8 v] w (OpMade v 1 w)) → Script bs (off + 1) → Script bs off
  | data {off : Nat} (v : Int) (n : Nat) : bs[off]? = some v → 1 ≤ n → n ≤ 75 → off + n + 1 ≤ bs.length → (∀ w, Calls Tryz.prog 62 #[.int .u8 v] w (OpMade v ((n + 1 : Nat) : Int) w)) → Script bs (off + (n + 1)) → Script bs off

/-- A tokenizer on its way over a script, and the world at which it began. -/
def ParseIn (w0 : World) (b sb so K : Nat) (bs : List Int) (off : Nat) (w : World) : Prop :=
  ∃ c pos, TokIn b 0 84 c w sb so bs.length K off pos ∧ (∀ i, i < bs.length → w.cell? ⟨sb, so + i, none⟩ = some (.int .u8 (bs.getD i 0))) ∧ Below w0.heap.size w0 w ∧ w0.heap.size ≤ b ∧ pos + 1 ≤ off ∧ Script bs off

theorem ParseIn.post {w0 : World} {b sb so K : Nat} {bs : List Int} {off : Nat} {w w' : World} {c : Array Value} {pos : Int} (ht : TokIn b 0 84 c w sb so bs.length K off pos) (hc : ∀ i, i < bs.length → w.cell? ⟨sb, so + i, none⟩ = some (.int .u8 (bs.getD i 0))) (hb : Below w0.heap.size w0 w) (hbb : w0.heap.size ≤ b) (hpos : pos + 1 ≤ off)
    {v len : Int} {off' : Nat} {dat : Value} (hoff : off < off') (hle : off' ≤ bs.length) (hs : Script bs off') (p : TokPost b 0 84 c v len off' (pos + 1) dat w w') : ParseIn w0 b sb so K bs off' w' := by
  obtain ⟨q, s, hq, hq1, hq2, hk⟩ := p
  obtain ⟨g1, g2, g3, g4, ⟨v4, g5⟩, ⟨v5, g6⟩, g7, g8, g9, ⟨g10, g11⟩, g12⟩ := ht
  have z : ∀ i x, c[i]? = some x → i < c.size := fun i x h => (Array.getElem?_eq_some_iff.1 h).1
  have z0 := z _ _ g2
  have z2 := z _ _ g3
  have z3 := z _ _ g4
  have z4 := z _ _ g5
  have z5 := z _ _ g6
  have z6 := z _ _ g7
  refine ⟨_, pos + 1, ⟨hq2, ?_, ?_, ?_, ⟨.pointer (some ⟨q, 0, none⟩), ?_⟩, ⟨dat, ?_⟩, ?_, g8, g9, ⟨by omega, by omega⟩, g12⟩, ?_, ?_, hbb, by omega, hs⟩
  · simp; exact g2
  · simp [z2]
  · simp [z3]
  · simp [z4]
  · simp [z5]
  · simp; exact g7
  · intro i hi
    rw [hk.cell (p := ⟨sb, so + i, none⟩) ⟨World.block_lt_of_cell? _ _ (hc i hi), g8⟩]
    exact hc i hi
  · exact hb.trans ⟨hk.os, hk.tape, hk.output, hk.size, fun k hk' => hk.block k ⟨Nat.lt_of_lt_of_le hk' hb.size, by omega⟩⟩

theorem parse_next {w0 : World} {b sb so K : Nat} {bs : List Int} {off : Nat} {w : World} (h : ParseIn w0 b sb so K bs off w) (hlt : off < bs.length) :
    Calls Tryz.prog 43 #[.pointer (some ⟨b, 0, none⟩)] w fun e w' => e = .returned (.bool true) ∧ ∃ off', off < off' ∧ off' ≤ bs.length ∧ ParseIn w0 b sb so K bs off' w' := by
  obtain ⟨c, pos, ht, hc, hb, hbb, hpos, hs⟩ := h
  cases hs with
  | done => exact absurd hlt (Nat.lt_irrefl _)
  | one v hv hop hs =>
    have hv' : w.cell? ⟨sb, so + off, none⟩ = some (.int .u8 v) := by rw [hc off hlt]; simp [List.getD, hv]
    refine (next_one ht hlt hv' hop).mono ?_
    rintro e w' ⟨rfl, p⟩
    exact ⟨rfl, off + 1, Nat.lt_succ_self _, hlt, ParseIn.post ht hc hb hbb hpos (Nat.lt_succ_self _) hlt hs p⟩
  | data v n hv h1 h75 hle hop hs =>
    have hv' : w.cell? ⟨sb, so + off, none⟩ = some (.int .u8 v) := by rw [hc off hlt]; simp [List.getD, hv]
    refine (next_data ht n h1 h75 hle hv' hop).mono ?_
    rintro e w' ⟨rfl, p⟩
    exact ⟨rfl, off + (n + 1), by omega, by omega, ParseIn.post ht hc hb hbb hpos (by omega) (by omega) hs p⟩

set_option maxRecDepth 100000 in
theorem next_end {b o : Nat} {w : World} {p : Option Addr} {n k : Nat} {off : Int} (hs : w.cell? ⟨b, o, none⟩ = some (.slice p n k)) (hn : n ≤ 1000000) (ho : w.cell? ⟨b, o + 2, none⟩ = some (.int .i32 off)) (he : w.cell? ⟨b, o + 6, none⟩ = some .nilIface) (hend : (n : Int) ≤ off) :
    Calls Tryz.prog 43 #[.pointer (some ⟨b, o, none⟩)] w fun e w' => e = .returned (.bool false) ∧ ∃ d, w' = w.drewN d := by
  have hd : decide ((n : Int) ≤ off) = true := by simpa using hend
  go_enter Tryz.func43, Tryz.ntmps43
  go_wp2_with (go_at_call 47; refine (done_any hs hn ho he).mono ?_; rintro e w' ⟨rfl, d, rfl⟩; rw [hd])
  go_ret
  exact ⟨rfl, _, rfl⟩

/-- What the loop over the tokens meets at its head. -/
def ParseGo (w0 : World) (b : Nat) : Nat → World → Prop
  | 0, _ => False
  | n + 1, w => Calls Tryz.prog 43 #[.pointer (some ⟨b, 0, none⟩)] w fun e w' => (e = .returned (.bool true) ∧ ParseGo w0 b n w') ∨ (e = .returned (.bool false) ∧ Below w0.heap.size w0 w' ∧ w'.cell? ⟨b, 6, none⟩ = some .nilIface)

theorem ParseIn.go {w0 : World} {b sb so K : Nat} {bs : List Int} : ∀ n off w, ParseIn w0 b sb so K bs off w → off ≤ bs.length → bs.length < off + n → ParseGo w0 b n w := by
  intro n
  induction n with
  | zero => intro off w h h1 h2; omega
  | succ n ih =>
    intro off w h h1 h2
    rcases Nat.lt_or_ge off bs.length with hlt | hge
    · refine (parse_next h hlt).mono ?_
      rintro e w' ⟨rfl, off', h3, h4, h5⟩
      exact .inl ⟨rfl, ih off' w' h5 h4 (by omega)⟩
    · obtain ⟨c, pos, ht, hc, hb, hbb, hpos, hs⟩ := h
      refine (next_end (o := 0) (off := (off : Int)) (by rw [cell_at ht.blk, ht.t0]) (by have := ht.hL; omega) (by rw [cell_at ht.blk, ht.t2]) (by rw [cell_at ht.blk, ht.t6]) (by omega)).mono ?_
      rintro e w' ⟨rfl, d, rfl⟩
      refine .inr ⟨rfl, hb.trans ⟨rfl, rfl, rfl, Nat.le_refl _, fun _ _ => rfl⟩, ?_⟩
      show w.cell? _ = _
      rw [cell_at ht.blk]
      exact ht.t6

set_option maxRecDepth 100000 in
set_option maxHeartbeats 1000000 in
theorem parses_any {M : Nat → Prop} {w : World} {x : Value} {bs : List Int} (hx : Elem M w x bs) (hM : ∀ k, M k → k < w.heap.size) (hl : bs.length ≤ 10000) (hs : Script bs 0) :
    Calls Tryz.prog 34 #[.int .u16 0, x] w fun e w' => e = .returned .nilIface ∧ Below w.heap.size w w' := by
  obtain ⟨p, k, rfl, h1, h2, h3, h4, h5⟩ := hx
  have HG : ∀ w1 b, Below w.heap.size w w1 → w.heap.size ≤ b → w1.heap[b]? = some (.cells (tokCells (.slice p bs.length k)) 84 (0, 0)) → ParseGo w b (bs.length + 1) w1 := by
    intro w1 b hb hbb hblk
    rcases Nat.eq_zero_or_pos bs.length with h0 | hpos
    · rw [h0]
      refine (next_end (o := 0) (off := 0) (n := bs.length) (p := p) (k := k) (by rw [cell_at hblk]; rfl) (by omega) (by rw [cell_at hblk]; rfl) (by rw [cell_at hblk]; rfl) (by omega)).mono ?_
      rintro e w' ⟨rfl, d, rfl⟩
      refine .inr ⟨rfl, hb.trans ⟨rfl, rfl, rfl, Nat.le_refl _, fun _ _ => rfl⟩, ?_⟩
      show w1.cell? _ = _
      rw [cell_at hblk]; rfl
    · obtain ⟨sb, so, rfl, hMb, hcs⟩ := h5 hpos
      have hsb := hM sb hMb
      refine ParseIn.go _ 0 _ ⟨tokCells (.slice (some ⟨sb, so, none⟩) bs.length k), -1, ⟨hblk, rfl, rfl, rfl, ⟨_, rfl⟩, ⟨_, rfl⟩, rfl, by omega, by omega, ⟨by omega, by omega⟩, ⟨h1, h2⟩⟩, ?_, hb, hbb, by omega, hs⟩ (Nat.zero_le _) (by omega)
      intro i hi
      rw [World.cell?_of_block (a := ⟨sb, so + i, none⟩) (w := w) (hb.block sb hsb)]
      exact hcs i hi
  have HH := Lib.hid HG
  clear HG h1 h2 h3 h4 h5 hM hs
  go_enter Tryz.func34, Tryz.ntmps34
  go_wp2_with (go_at_call 36; refine (mkTok_any _ _ _ _).mono ?_; rintro e w' ⟨rfl, rfl⟩)
  have hg := HH.out ((w.alloc (.cells (tokCells (.slice p bs.length k)) 84)).alloc (.cells (tokCells (.slice p bs.length k)) 84)) (w.heap.size + 1)
    (((Below.refl _ _).alloc (Nat.le_refl _) _).alloc (by simp) _) (Nat.le_succ _) (block_new_at _ _ _ (by simp))
  refine wp_loop_rounds (bs.length + 1) ?_
  generalize bs.length + 1 = n at hg
  generalize hw1 : (w.alloc (.cells (tokCells (.slice p bs.length k)) 84)).alloc _ = w1 at hg
  change Code.rounds _ _ _ _ _ ((w.alloc (.cells (tokCells (.slice p bs.length k)) 84)).alloc (.cells (tokCells (.slice p bs.length k)) 84))
  rw [hw1]
  clear hw1 HH
  have HG := Lib.hid hg
  clear hg
  cases n with
  | zero => exact HG.out.elim
  | succ n =>
  rw [rounds_succ]
  go_wp2_with fail
  refine HG.out.mono ?_
  clear HG
  rintro e w1 (⟨rfl, hg⟩ | ⟨rfl, hg, c6⟩)
  · have HG := Lib.hid hg
    clear hg
    go_wp2_with fail
    induction n generalizing w1 with
    | zero => exact HG.out.elim
    | succ n ih =>
    rw [rounds_succ]
    have IH := Lib.hid ih
    clear ih
    go_wp2_with fail
    refine HG.out.mono ?_
    clear HG
    rintro e w2 (⟨rfl, hg⟩ | ⟨rfl, hg, c6⟩)
    · have HG := Lib.hid hg
      clear hg
      go_wp2_with fail
      exact IH.out _ HG
    · have HG := Lib.hid hg
      clear hg
      go_wp2_with (go_at_call 44; refine (err_any (o := 0) c6).mono ?_; rintro e w' ⟨rfl, rfl⟩)
      go_ret
      exact ⟨rfl, HG.out⟩
  · have HG := Lib.hid hg
    clear hg
    go_wp2_with (go_at_call 44; refine (err_any (o := 0) c6).mono ?_; rintro e w' ⟨rfl, rfl⟩)
    go_ret
    exact ⟨rfl, HG.out⟩
end Go.Proofs.YtaohcejbjeaemaaGreatDoor

import Derived.Test.YtbnjggklinickaaGreatDoorRNextD
import Derived.LoopN
namespace Go.Proofs.YtbnjggklinickaaGreatDoorR
open Go Go.RowKit

/-- The tokenizer's cells at its begin. -/
def tokCells (x : Value) : Array Value := #[x, .int .u16 0, .int .i32 0, .int .i32 (-1), .pointer none, .slice none 0 0, .nilIface]

theorem mkTok_any (p : Option Addr) (n k : Nat) (w : World) : Calls Tryz.prog 28 #[.int .u16 0, .slice p n k] w fun e w' =>
    e = .returned (.agg #[.slice p n k, .int .u16 0, .int .i32 0, .int .i32 (-1), .pointer none, .slice none 0 0, .nilIface]) ∧ w.alloc (.cells (tokCells (.slice p n k)) 77) = w' := by
  go_enter Tryz.func28, Tryz.ntmps28
  go_wp2
  exact bodyPost_ret (v := .agg #[.slice p n k, .int .u16 0, .int .i32 0, .int .i32 (-1), .pointer none, .slice none 0 0, .nilIface]) (by simp [results, Tryz.results28, go_sem]) rfl ⟨rfl, rfl⟩
#print axioms mkTok_any

/-- A script's tokens from a place on: opcodes of one byte, and pushes of 1 to 75 bytes. -/
inductive Script (bs : List Int) : Nat → Prop where
  | done : Script bs bs.length
  | one {off : Nat} (v : Int) : bs[off]? = some v → (∀ w, Calls Tryz.prog 53 #[.int .u8 v] w (OpMade v 1 w)) → Script bs (off + 1) → Script bs off
  | data {off : Nat} (v : Int) (n : Nat) : bs[off]? = some v → 1 ≤ n → n ≤ 75 → off + n + 1 ≤ bs.length → (∀ w, Calls Tryz.prog 53 #[.int .u8 v] w (OpMade v ((n + 1 : Nat) : Int) w)) → Script bs (off + (n + 1)) → Script bs off

/-- A tokenizer on its way over a script, and the world at which it began. -/
def ParseIn (w0 : World) (b sb so K : Nat) (bs : List Int) (off : Nat) (w : World) : Prop :=
  ∃ c pos, TokIn b 0 77 c w sb so bs.length K off pos ∧ (∀ i, i < bs.length → w.cell? ⟨sb, so + i, none⟩ = some (.int .u8 (bs.getD i 0))) ∧ Below w0.heap.size w0 w ∧ w0.heap.size ≤ b ∧ pos + 1 ≤ off ∧ Script bs off

theorem ParseIn.post {w0 : World} {b sb so K : Nat} {bs : List Int} {off : Nat} {w w' : World} {c : Array Value} {pos : Int} (ht : TokIn b 0 77 c w sb so bs.length K off pos) (hc : ∀ i, i < bs.length → w.cell? ⟨sb, so + i, none⟩ = some (.int .u8 (bs.getD i 0))) (hb : Below w0.heap.size w0 w) (hbb : w0.heap.size ≤ b) (hpos : pos + 1 ≤ off)
    {v len : Int} {off' : Nat} {dat : Value} (hoff : off < off') (hle : off' ≤ bs.length) (hs : Script bs off') (p : TokPost b 0 77 c v len off' (pos + 1) dat w w') : ParseIn w0 b sb so K bs off' w' := by
  obtain ⟨q, s, hq, hq1, hq2, hk⟩ := p
  obtain ⟨g1, g2, g3, g4, ⟨v4, g5⟩, ⟨v5, g6⟩, g7, g8, g9, ⟨g10, g11⟩, g12⟩ := ht
  have z : ∀ i x, c[i]? = some x → i < c.size := fun i x h => (Array.getElem?_eq_some_iff.1 h).1
  have z0 := z _ _ g2
  have z2 := z _ _ g3
  have z3 := z _ _ g4
  have z4 := z _ _ g5
  have z5 := z _ _ g6
  have z6 := z _ _ g7
  refine ⟨_, pos + 1, ⟨hq2, ?_, ?_, ?_, ⟨.pointer (some ⟨q, 0, none⟩), ?_⟩, ⟨dat, ?_⟩, ?_, g8, g9, ⟨by omega, by omega⟩, g12⟩, ?_, ?_, hbb, by omega, hs⟩
  · simp; exact g2
  · simp [z2]
  · simp [z3]
  · simp [z4]
  · simp [z5]
  · simp; exact g7
  · intro i hi
    rw [hk.cell (p := ⟨sb, so + i, none⟩) ⟨World.block_lt_of_cell? _ _ (hc i hi), g8⟩]
    exact hc i hi
  · exact hb.trans ⟨hk.os, hk.tape, hk.output, hk.size, fun k hk' => hk.block k ⟨Nat.lt_of_lt_of_le hk' hb.size, by omega⟩⟩

theorem parse_next {w0 : World} {b sb so K : Nat} {bs : List Int} {off : Nat} {w : World} (h : ParseIn w0 b sb so K bs off w) (hlt : off < bs.length) :
    Calls Tryz.prog 32 #[.pointer (some ⟨b, 0, none⟩)] w fun e w' => e = .returned (.bool true) ∧ ∃ off', off < off' ∧ off' ≤ bs.length ∧ ParseIn w0 b sb so K bs off' w' := by
  obtain ⟨c, pos, ht, hc, hb, hbb, hpos, hs⟩ := h
  cases hs with
  | done => exact absurd hlt (Nat.lt_irrefl _)
  | one v hv hop hs =>
    have hv' : w.cell? ⟨sb, so + off, none⟩ = some (.int .u8 v) := by rw [hc off hlt]; simp [List.getD, hv]
    refine (next_one ht hlt hv' hop).mono ?_
    rintro e w' ⟨rfl, p⟩
    exact ⟨rfl, off + 1, Nat.lt_succ_self _, hlt, ParseIn.post ht hc hb hbb hpos (Nat.lt_succ_self _) hlt hs p⟩
  | data v n hv h1 h75 hle hop hs =>
    have hv' : w.cell? ⟨sb, so + off, none⟩ = some (.int .u8 v) := by rw [hc off hlt]; simp [List.getD, hv]
    refine (next_data ht n h1 h75 hle hv' hop).mono ?_
    rintro e w' ⟨rfl, p⟩
    exact ⟨rfl, off + (n + 1), by omega, by omega, ParseIn.post ht hc hb hbb hpos (by omega) (by omega) hs p⟩

set_option maxRecDepth 100000 in
theorem next_end {b o : Nat} {w : World} {p : Option Addr} {n k : Nat} {off : Int} (hs : w.cell? ⟨b, o, none⟩ = some (.slice p n k)) (hn : n ≤ 1000000) (ho : w.cell? ⟨b, o + 2, none⟩ = some (.int .i32 off)) (he : w.cell? ⟨b, o + 6, none⟩ = some .nilIface) (hend : (n : Int) ≤ off) :
    Calls Tryz.prog 32 #[.pointer (some ⟨b, o, none⟩)] w fun e w' => e = .returned (.bool false) ∧ ∃ d, w' = w.drewN d := by
  have hd : decide ((n : Int) ≤ off) = true := by simpa using hend
  go_enter Tryz.func32, Tryz.ntmps32
  go_wp2_with (go_at_call 37; refine (done_any hs hn ho he).mono ?_; rintro e w' ⟨rfl, d, rfl⟩; rw [hd])
  go_ret
  exact ⟨rfl, _, rfl⟩
#print axioms next_end
#print axioms parse_next

/-- What the loop over the tokens meets at its head. -/
def ParseGo (w0 : World) (b : Nat) : Nat → World → Prop
  | 0, _ => False
  | n + 1, w => Calls Tryz.prog 32 #[.pointer (some ⟨b, 0, none⟩)] w fun e w' => (e = .returned (.bool true) ∧ ParseGo w0 b n w') ∨ (e = .returned (.bool false) ∧ Below w0.heap.size w0 w' ∧ w'.cell? ⟨b, 6, none⟩ = some .nilIface)

theorem ParseIn.go {w0 : World} {b sb so K : Nat} {bs : List Int} : ∀ n off w, ParseIn w0 b sb so K bs off w → off ≤ bs.length → bs.length < off + n → ParseGo w0 b n w := by
  intro n
  induction n with
  | zero => intro off w h h1 h2; omega
  | succ n ih =>
    intro off w h h1 h2
    rcases Nat.lt_or_ge off bs.length with hlt | hge
    · refine (parse_next h hlt).mono ?_
      rintro e w' ⟨rfl, off', h3, h4, h5⟩
      exact .inl ⟨rfl, ih off' w' h5 h4 (by omega)⟩
    · obtain ⟨c, pos, ht, hc, hb, hbb, hpos, hs⟩ := h
      refine (next_end (o := 0) (off := (off : Int)) (by rw [cell_at ht.blk, ht.t0]) (by have := ht.hL; omega) (by rw [cell_at ht.blk, ht.t2]) (by rw [cell_at ht.blk, ht.t6]) (by omega)).mono ?_
      rintro e w' ⟨rfl, d, rfl⟩
      refine .inr ⟨rfl, hb.trans ⟨rfl, rfl, rfl, Nat.le_refl _, fun _ _ => rfl⟩, ?_⟩
      show w.cell? _ = _
      rw [cell_at ht.blk]
      exact ht.t6

set_option maxRecDepth 100000 in
set_option maxHeartbeats 1000000 in
theorem parses_any {M : Nat → Prop} {w : World} {x : Value} {bs : List Int} (hx : Elem M w x bs) (hM : ∀ k, M k → k < w.heap.size) (hl : bs.length ≤ 10000) (hs : Script bs 0) :
    Calls Tryz.prog 26 #[.int .u16 0, x] w fun e w' => e = .returned .nilIface ∧ Below w.heap.size w w' := by
  obtain ⟨p, k, rfl, h1, h2, h3, h4, h5⟩ := hx
  have HG : ∀ w1 b, Below w.heap.size w w1 → w.heap.size ≤ b → w1.heap[b]? = some (.cells (tokCells (.slice p bs.length k)) 77 (0, 0)) → ParseGo w b (bs.length + 1) w1 := by
    intro w1 b hb hbb hblk
    rcases Nat.eq_zero_or_pos bs.length with h0 | hpos
    · rw [h0]
      refine (next_end (o := 0) (off := 0) (n := bs.length) (p := p) (k := k) (by rw [cell_at hblk]; rfl) (by omega) (by rw [cell_at hblk]; rfl) (by rw [cell_at hblk]; rfl) (by omega)).mono ?_
      rintro e w' ⟨rfl, d, rfl⟩
      refine .inr ⟨rfl, hb.trans ⟨rfl, rfl, rfl, Nat.le_refl _, fun _ _ => rfl⟩, ?_⟩
      show w1.cell? _ = _
      rw [cell_at hblk]; rfl
    · obtain ⟨sb, so, rfl, hMb, hcs⟩ := h5 hpos
      have hsb := hM sb hMb
      refine ParseIn.go _ 0 _ ⟨tokCells (.slice (some ⟨sb, so, none⟩) bs.length k), -1, ⟨hblk, rfl, rfl, rfl, ⟨_, rfl⟩, ⟨_, rfl⟩, rfl, by omega, by omega, ⟨by omega, by omega⟩, ⟨h1, h2⟩⟩, ?_, hb, hbb, by omega, hs⟩ (Nat.zero_le _) (by omega)
      intro i hi
      rw [World.cell?_of_block (a := ⟨sb, so + i, none⟩) (w := w) (hb.block sb hsb)]
      exact hcs i hi
  have HH := Lib.hid HG
  clear HG h1 h2 h3 h4 h5 hM hs
  go_enter Tryz.func26, Tryz.ntmps26
  go_wp2_with (go_at_call 28; refine (mkTok_any _ _ _ _).mono ?_; rintro e w' ⟨rfl, rfl⟩)
  have hg := HH.out ((w.alloc (.cells (tokCells (.slice p bs.length k)) 77)).alloc (.cells (tokCells (.slice p bs.length k)) 77)) (w.heap.size + 1)
    (((Below.refl _ _).alloc (Nat.le_refl _) _).alloc (by simp) _) (Nat.le_succ _) (block_new_at _ _ _ (by simp))
  refine wp_loop_rounds (bs.length + 1) ?_
  generalize bs.length + 1 = n at hg
  generalize hw1 : (w.alloc (.cells (tokCells (.slice p bs.length k)) 77)).alloc _ = w1 at hg
  change Code.rounds _ _ _ _ _ ((w.alloc (.cells (tokCells (.slice p bs.length k)) 77)).alloc (.cells (tokCells (.slice p bs.length k)) 77))
  rw [hw1]
  clear hw1 HH
  have HG := Lib.hid hg
  clear hg
  cases n with
  | zero => exact HG.out.elim
  | succ n =>
  rw [rounds_succ]
  go_wp2_with fail
  refine HG.out.mono ?_
  clear HG
  rintro e w1 (⟨rfl, hg⟩ | ⟨rfl, hg, c6⟩)
  · have HG := Lib.hid hg
    clear hg
    go_wp2_with fail
    induction n generalizing w1 with
    | zero => exact HG.out.elim
    | succ n ih =>
    rw [rounds_succ]
    have IH := Lib.hid ih
    clear ih
    go_wp2_with fail
    refine HG.out.mono ?_
    clear HG
    rintro e w2 (⟨rfl, hg⟩ | ⟨rfl, hg, c6⟩)
    · have HG := Lib.hid hg
      clear hg
      go_wp2_with fail
      exact IH.out _ HG
    · have HG := Lib.hid hg
      clear hg
      go_wp2_with (go_at_call 33; refine (err_any (o := 0) c6).mono ?_; rintro e w' ⟨rfl, rfl⟩)
      go_ret
      exact ⟨rfl, HG.out⟩
  · have HG := Lib.hid hg
    clear hg
    go_wp2_with (go_at_call 33; refine (err_any (o := 0) c6).mono ?_; rintro e w' ⟨rfl, rfl⟩)
    go_ret
    exact ⟨rfl, HG.out⟩
#print axioms parses_any
end Go.Proofs.YtbnjggklinickaaGreatDoorR

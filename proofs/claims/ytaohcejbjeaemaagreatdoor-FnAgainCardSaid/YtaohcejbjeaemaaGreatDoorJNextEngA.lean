import Derived.Test.YtaohcejbjeaemaaGreatDoorJBitsOpBase
import Derived.StillTailTactics
namespace Go.Proofs.YtaohcejbjeaemaaGreatDoor
open Go Go.RowKit

/-- A tokenizer's cells. -/
structure TokIn (b o : Nat) (T : TypeId) (c : Array Value) (w : World) (sb so L K : Nat) (off : Nat) (pos : Int) : Prop where
  blk : w.heap[b]? = some (.cells c T (0, 0))
  t0 : c[o]? = some (.slice (some ⟨sb, so, none⟩) L K)
  t2 : c[o + 2]? = some (.int .i32 off)
  t3 : c[o + 3]? = some (.int .i32 pos)
  t4 : ∃ v, c[o + 4]? = some v
  t5 : ∃ v, c[o + 5]? = some v
  t6 : c[o + 6]? = some .nilIface
  ne : sb ≠ b
  hL : L ≤ 100000
  hpos : -1 ≤ pos ∧ pos ≤ 100000
  hK : L ≤ K ∧ K ≤ maxLen

/-- What a step of the tokenizer leaves. -/
def TokPost (b o : Nat) (T : TypeId) (c : Array Value) (v len : Int) (off' : Nat) (pos' : Int) (dat : Value) (w w' : World) : Prop :=
  ∃ (p : Nat) (s : ByteArray), w.heap.size ≤ p ∧ w'.heap[p]? = some (.cells #[.int .u8 v, .string s, .int .i64 len] 142 (0, 0)) ∧
    w'.heap[b]? = some (.cells ((((c.setIfInBounds (o + 3) (.int .i32 pos')).setIfInBounds (o + 2) (.int .i32 off')).setIfInBounds (o + 4) (.pointer (some ⟨p, 0, none⟩))).setIfInBounds (o + 5) dat) T (0, 0)) ∧
    Kept (fun k => k < w.heap.size ∧ k ≠ b) w w'

set_option maxHeartbeats 2000000 in
set_option maxRecDepth 100000 in
theorem next_one {b o : Nat} {T : TypeId} {c : Array Value} {w : World} {sb so L K off : Nat} {pos v : Int} (h : TokIn b o T c w sb so L K off pos) (hlt : off < L) (hv : w.cell? ⟨sb, so + off, none⟩ = some (.int .u8 v))
    (hop : ∀ w, Calls Tryz.prog 62 #[.int .u8 v] w (OpMade v 1 w)) :
    Calls Tryz.prog 43 #[.pointer (some ⟨b, o, none⟩)] w fun e w' => e = .returned (.bool true) ∧ TokPost b o T c v 1 (off + 1) (pos + 1) (.slice none 0 0) w w' := by
  obtain ⟨hb, t0, t2, t3, ⟨v4, t4⟩, ⟨v5, t5⟩, t6, hne, hL, ⟨hp1, hp2⟩, hK1, hK2⟩ := h
  have c0 : w.cell? ⟨b, o, none⟩ = some (.slice (some ⟨sb, so, none⟩) L K) := by rw [cell_at hb, t0]
  have c2 : w.cell? ⟨b, o + 2, none⟩ = some (.int .i32 off) := by rw [cell_at hb, t2]
  have c3 : w.cell? ⟨b, o + 3, none⟩ = some (.int .i32 pos) := by rw [cell_at hb, t3]
  have c4 : w.cell? ⟨b, o + 4, none⟩ = some v4 := by rw [cell_at hb, t4]
  have c5 : w.cell? ⟨b, o + 5, none⟩ = some v5 := by rw [cell_at hb, t5]
  have c6 : w.cell? ⟨b, o + 6, none⟩ = some .nilIface := by rw [cell_at hb, t6]
  have hf : ∀ i, w.frozen? ⟨b, i, none⟩ = false := fun i => free_at hb i
  have hbl : b < w.heap.size := lt_of_block hb
  have hne' : ¬ b = sb := fun e => hne e.symm
  have hsl : sb < w.heap.size := World.block_lt_of_cell? _ _ hv
  have HOP := Lib.hid hop
  have HB := Lib.hid hb
  have hdone : decide ((L : Int) ≤ (off : Int)) = false := by simp; omega
  clear hop hb t0 t2 t3 t4 t5 t6
  go_enter Tryz.func43, Tryz.ntmps43
  go_wp2_with (go_at_call 47; refine (done_any c0 (by omega) c2 c6).mono ?_; rintro e w' ⟨rfl, d, rfl⟩)
  refine wp_region_still_tail 10 (by kernel_rfl) (by kernel_rfl) ?_
  simp only [List.take_succ_cons, List.take_zero, List.drop_succ_cons, List.drop_zero]
  change wpStill _ _ (World.drew _) _ _ _
  repeat still_step
  refine wpStill_nil ?_
  change wpList _ _ _ _ _ (World.drew _)
  go_wp2_with (go_at_call 62; refine (HOP.out _).mono ?_; rintro e w' ⟨s, rfl, rfl⟩)
  go_ret
  refine ⟨rfl, w.heap.size, s, Nat.le_refl _, ?_, block_drew (block_alloc (block_setCell (block_setCell (block_setCell (block_setCell (block_drewN HB.out d) _ _) _ _) _ _) _ _) _), ?_⟩
  · exact block_drew (block_new_at _ _ _ (by simp only [World.size_setCell]; rfl))
  · refine Kept.drew (Kept.alloc (Kept.setCell (Kept.setCell (Kept.setCell (Kept.setCell ((Kept.refl _ w).drewN d) ?_ _) ?_ _) ?_ _) ?_ _) ?_ _)
    · exact fun h => h.2 rfl
    · exact fun h => h.2 rfl
    · exact fun h => h.2 rfl
    · exact fun h => h.2 rfl
    · intro k hk; simp only [World.size_setCell]; exact hk.1
end Go.Proofs.YtaohcejbjeaemaaGreatDoor
namespace Go.Proofs.YtaohcejbjeaemaaGreatDoor
open Go Go.RowKit

/-- What of an engine stays as it was made. -/
structure EngK where
  e : Nat
  flags : Int
  ver : Int
  txin : Value
  txout : Value
  lock : Int
  fetch : Value
  scs : Nat
  scap : Nat
  sb : Nat
  so : Nat
  L : Nat
  cap : Nat
  amount : Int
  /-- cells that are read and never written -/
  mem : Addr → Value → Prop

/-- What of an engine goes on. -/
structure EngV where
  si : Int
  oi : Int
  off : Nat
  pos : Int
  op : Value
  dat : Value
  stk : Value
  nops : Int

def engCells (K : EngK) (V : EngV) : Array Value :=
  #[.int .u32 K.flags, .int .i32 K.ver, K.txin, K.txout, .int .u32 K.lock, .int .i64 0, .int .u16 0, .bool false, .pointer none, .pointer none, K.fetch,
    .slice (some ⟨K.scs, 0, none⟩) 2 K.scap, .int .i64 V.si, .int .i64 V.oi, .int .i64 0,
    .slice (some ⟨K.sb, K.so, none⟩) K.L K.cap, .int .u16 0, .int .i32 V.off, .int .i32 V.pos, V.op, V.dat, .nilIface,
    .slice none 0 0, V.stk, .bool false, .slice none 0 0, .bool false, .slice none 0 0, .int .i64 V.nops, .int .i64 0, .slice none 0 0, .int .i64 K.amount, .pointer none, .nilFunc]

/-- The blocks that are not written while an engine goes on. -/
def Live (K : EngK) (V : EngV) (w : World) (k : Nat) : Prop := k < w.heap.size ∧ k ≠ K.e ∧ V.stk.ownBlock ≠ some k

inductive Elems (M : Nat → Prop) (w : World) : List Value → List (List Int) → Prop where
  | nil : Elems M w [] []
  | snoc {D E x b} : Elems M w D E → Elem M w x b → Elems M w (D ++ [x]) (E ++ [b])

/-- An engine that goes on, with the stack's elements. -/
structure Eng (K : EngK) (V : EngV) (E : List (List Int)) (w : World) : Prop where
  blk : w.heap[K.e]? = some (.cells (engCells K V) 90 (0, 0))
  row : ∃ D, Row w V.stk D ∧ Elems (Live K V w) w D E
  ne : V.stk.ownBlock ≠ some K.e
  mem : ∀ a v, K.mem a v → Live K V w a.block ∧ w.cell? a = some v

/-- From one state to a later one: what was not to be written is as it was, and is not to be written still. -/
structure To (K : EngK) (V : EngV) (w : World) (V' : EngV) (w' : World) : Prop where
  kept : Kept (Live K V w) w w'
  live : ∀ k, Live K V w k → Live K V' w' k

theorem To.trans {K : EngK} {V V' V'' : EngV} {w w' w'' : World} (h : To K V w V' w') (h' : To K V' w' V'' w'') : To K V w V'' w'' :=
  ⟨h.kept.trans (h'.kept.mono h.live), fun k hk => h'.live k (h.live k hk)⟩
theorem Elems.kept {M M' : Nat → Prop} {w w' : World} {D : List Value} {E : List (List Int)} (h : Elems M w D E) (k : Kept M w w') (hM : ∀ k, M k → M' k) : Elems M' w' D E := by
  induction h with
  | nil => exact .nil
  | snoc _ hx ih => exact .snoc ih ((hx.kept k).mono hM)
theorem Elems.length {M : Nat → Prop} {w : World} {D : List Value} {E : List (List Int)} (h : Elems M w D E) : D.length = E.length := by
  induction h with
  | nil => rfl
  | snoc _ _ ih => simp [ih]
theorem Elems.last {M : Nat → Prop} {w : World} {D : List Value} {E : List (List Int)} {b : List Int} (h : Elems M w D (E ++ [b])) : ∃ D' x, D = D' ++ [x] ∧ Elems M w D' E ∧ Elem M w x b := by
  generalize hE : E ++ [b] = EE at h
  cases h with
  | nil => simp at hE
  | snoc h1 h2 =>
    obtain ⟨rfl, h3⟩ := List.append_inj' hE rfl
    obtain rfl := List.cons.inj h3 |>.1
    exact ⟨_, _, rfl, h1, h2⟩

theorem Eng.stkIn {K : EngK} {V : EngV} {E : List (List Int)} {w : World} (h : Eng K V E w) {D : List Value} (hr : Row w V.stk D) :
    StkIn (Live K V w) K.e 23 90 (engCells K V) w V.stk D :=
  ⟨fun _ hk => hk.1, h.blk, rfl, hr, h.ne, fun _ hk hl => hl.2.2 hk, fun hl => hl.2.1 rfl⟩

/-- A state after a walk on the stack. -/
theorem Eng.post {K : EngK} {V : EngV} {E E' : List (List Int)} {w w' : World} (h : Eng K V E w) {D' : List Value} (p : StkPost (Live K V w) K.e 23 90 (engCells K V) w w' D') (hE : Elems (Live K V w) w' D' E') :
    ∃ s, Eng K { V with stk := s } E' w' ∧ To K V w { V with stk := s } w' := by
  obtain ⟨dv', h1, h2, h3, h4, h5⟩ := p
  have hl : ∀ k, Live K V w k → Live K { V with stk := dv' } w' k := fun k hk => ⟨Nat.lt_of_lt_of_le hk.1 h5.size, hk.2.1, fun e => h4 k e hk⟩
  refine ⟨dv', ⟨h1, ⟨D', h2, hE.kept (Kept.refl _ _) hl⟩, h3, fun a v hm => ⟨hl _ (h.mem a v hm).1, ?_⟩⟩, h5, hl⟩
  rw [h5.cell (h.mem a v hm).1]
  exact (h.mem a v hm).2

/-- The engine's cell. -/
theorem Eng.cell {K : EngK} {V : EngV} {E : List (List Int)} {w : World} (h : Eng K V E w) (i : Nat) : w.cell? ⟨K.e, i, none⟩ = (engCells K V)[i]? := cell_at h.blk i
/-- From cells to cells, nothing but the engine's block written. -/
theorem Eng.put {K : EngK} {V V' : EngV} {E : List (List Int)} {w w' : World} (h : Eng K V E w) (hs : V'.stk = V.stk) (hb : w'.heap[K.e]? = some (.cells (engCells K V') 90 (0, 0)))
    (k : Kept (fun k => k < w.heap.size ∧ k ≠ K.e) w w') : Eng K V' E w' ∧ To K V w V' w' := by
  have hl : ∀ k, Live K V w k → Live K V' w' k := fun j hj => ⟨Nat.lt_of_lt_of_le hj.1 k.size, hj.2.1, by rw [hs]; exact hj.2.2⟩
  have k' : Kept (Live K V w) w w' := k.mono fun j hj => ⟨hj.1, hj.2.1⟩
  obtain ⟨D, hr, he⟩ := h.row
  refine ⟨⟨hb, ⟨D, ?_, he.kept k' hl⟩, by rw [hs]; exact h.ne, fun a v hm => ⟨hl _ (h.mem a v hm).1, by rw [k'.cell (h.mem a v hm).1]; exact (h.mem a v hm).2⟩⟩, k', hl⟩
  rw [hs]
  refine hr.kept k fun g hg => ⟨hr.lt g hg, fun e => h.ne (by rw [hg, e])⟩
end Go.Proofs.YtaohcejbjeaemaaGreatDoor
namespace Go.Proofs.YtaohcejbjeaemaaGreatDoor
open Go Go.RowKit

/-- What of an engine goes on, its second stack with it. -/
structure EngW where
  si : Int
  oi : Int
  off : Nat
  pos : Int
  op : Value
  dat : Value
  stk : Value
  nops : Int
  alt : Value

def cellsA (K : EngK) (V : EngW) : Array Value :=
  #[.int .u32 K.flags, .int .i32 K.ver, K.txin, K.txout, .int .u32 K.lock, .int .i64 0, .int .u16 0, .bool false, .pointer none, .pointer none, K.fetch,
    .slice (some ⟨K.scs, 0, none⟩) 2 K.scap, .int .i64 V.si, .int .i64 V.oi, .int .i64 0,
    .slice (some ⟨K.sb, K.so, none⟩) K.L K.cap, .int .u16 0, .int .i32 V.off, .int .i32 V.pos, V.op, V.dat, .nilIface,
    .slice none 0 0, V.stk, .bool false, V.alt, .bool false, .slice none 0 0, .int .i64 V.nops, .int .i64 0, .slice none 0 0, .int .i64 K.amount, .pointer none, .nilFunc]

/-- The blocks that a walk on the first stack does not write, on the second one, and neither. -/
def BareS (K : EngK) (V : EngW) (w : World) (k : Nat) : Prop := k < w.heap.size ∧ k ≠ K.e ∧ V.stk.ownBlock ≠ some k
def BareT (K : EngK) (V : EngW) (w : World) (k : Nat) : Prop := k < w.heap.size ∧ k ≠ K.e ∧ V.alt.ownBlock ≠ some k
def LiveA (K : EngK) (V : EngW) (w : World) (k : Nat) : Prop := k < w.heap.size ∧ k ≠ K.e ∧ V.stk.ownBlock ≠ some k ∧ V.alt.ownBlock ≠ some k

theorem LiveA.s {K : EngK} {V : EngW} {w : World} {k : Nat} (h : LiveA K V w k) : BareS K V w k := ⟨h.1, h.2.1, h.2.2.1⟩
theorem LiveA.t {K : EngK} {V : EngW} {w : World} {k : Nat} (h : LiveA K V w k) : BareT K V w k := ⟨h.1, h.2.1, h.2.2.2⟩

/-- An engine that goes on, with the elements of both stacks. -/
structure EngA (K : EngK) (V : EngW) (E A : List (List Int)) (w : World) : Prop where
  blk : w.heap[K.e]? = some (.cells (cellsA K V) 90 (0, 0))
  row : ∃ D, Row w V.stk D ∧ Elems (LiveA K V w) w D E
  arow : ∃ D, Row w V.alt D ∧ Elems (LiveA K V w) w D A
  ne : V.stk.ownBlock ≠ some K.e
  ane : V.alt.ownBlock ≠ some K.e
  two : ∀ k, V.stk.ownBlock = some k → V.alt.ownBlock ≠ some k
  mem : ∀ a v, K.mem a v → LiveA K V w a.block ∧ w.cell? a = some v

structure ToA (K : EngK) (V : EngW) (w : World) (V' : EngW) (w' : World) : Prop where
  kept : Kept (LiveA K V w) w w'
  live : ∀ k, LiveA K V w k → LiveA K V' w' k

theorem ToA.trans {K : EngK} {V V' V'' : EngW} {w w' w'' : World} (h : ToA K V w V' w') (h' : ToA K V' w' V'' w'') : ToA K V w V'' w'' :=
  ⟨h.kept.trans (h'.kept.mono h.live), fun k hk => h'.live k (h.live k hk)⟩
theorem ToA.refl (K : EngK) (V : EngW) (w : World) : ToA K V w V w := ⟨Kept.refl _ _, fun _ h => h⟩

theorem EngA.stkIn {K : EngK} {V : EngW} {E A : List (List Int)} {w : World} (h : EngA K V E A w) {D : List Value} (hr : Row w V.stk D) :
    StkIn (BareS K V w) K.e 23 90 (cellsA K V) w V.stk D :=
  ⟨fun _ hk => hk.1, h.blk, rfl, hr, h.ne, fun _ hk hl => hl.2.2 hk, fun hl => hl.2.1 rfl⟩
theorem EngA.altIn {K : EngK} {V : EngW} {E A : List (List Int)} {w : World} (h : EngA K V E A w) {D : List Value} (hr : Row w V.alt D) :
    StkIn (BareT K V w) K.e 25 90 (cellsA K V) w V.alt D :=
  ⟨fun _ hk => hk.1, h.blk, rfl, hr, h.ane, fun _ hk hl => hl.2.2 hk, fun hl => hl.2.1 rfl⟩

/-- A state after a walk on the first stack, which may have made blocks ahead. -/
theorem EngA.post {K : EngK} {V : EngW} {E E' A : List (List Int)} {w w1 w' : World} (h : EngA K V E A w) (hb : Below w.heap.size w w1) {D' : List Value}
    (p : StkPost (fun k => BareS K V w k ∨ NewIn w w1 k) K.e 23 90 (cellsA K V) w1 w' D') (hE : Elems (fun k => LiveA K V w k ∨ NewIn w w1 k) w' D' E') :
    ∃ s, EngA K { V with stk := s } E' A w' ∧ ToA K V w { V with stk := s } w' := by
  obtain ⟨dv', h1, h2, h3, h4, h5⟩ := p
  have hs := hb.size
  have he := lt_of_block h.blk
  obtain ⟨DA, hDA, hEA⟩ := h.arow
  have hkS : Kept (BareS K V w) w w' := ((kept_of_below hb).mono fun k hk => hk.1).trans (h5.mono fun k hk => .inl hk)
  have hkL : Kept (LiveA K V w) w w' := hkS.mono fun k hk => hk.s
  have hal : ∀ k, V.alt.ownBlock = some k → BareS K V w k := fun k hk => ⟨hDA.lt k hk, fun e => h.ane (by rw [hk, e]), fun e => h.two k e hk⟩
  have hl : ∀ k, (LiveA K V w k ∨ NewIn w w1 k) → LiveA K { V with stk := dv' } w' k := by
    rintro k (hk | hk)
    · exact ⟨Nat.lt_of_lt_of_le hk.1 hkS.size, hk.2.1, fun e => h4 k e (.inl hk.s), hk.2.2.2⟩
    · exact ⟨Nat.lt_of_lt_of_le hk.2 h5.size, Nat.ne_of_gt (Nat.lt_of_lt_of_le he hk.1), fun e => h4 k e (.inr hk), fun e => by have := (hal k e).1; unfold NewIn at hk; omega⟩
  refine ⟨dv', ⟨h1, ⟨D', h2, hE.kept (Kept.refl _ _) hl⟩, ⟨DA, hDA.kept hkS hal, hEA.kept hkL fun k hk => hl k (.inl hk)⟩, h3, h.ane, fun k e ea => h4 k e (.inl (hal k ea)), fun a v hm => ⟨hl _ (.inl (h.mem a v hm).1), ?_⟩⟩, hkL, fun k hk => hl k (.inl hk)⟩
  rw [hkL.cell (h.mem a v hm).1]
  exact (h.mem a v hm).2

/-- A state after a walk on the second stack. -/
theorem EngA.postT {K : EngK} {V : EngW} {E A A' : List (List Int)} {w w' : World} (h : EngA K V E A w) {D' : List Value}
    (p : StkPost (BareT K V w) K.e 25 90 (cellsA K V) w w' D') (hA : Elems (LiveA K V w) w' D' A') :
    ∃ s, EngA K { V with alt := s } E A' w' ∧ ToA K V w { V with alt := s } w' := by
  obtain ⟨dv', h1, h2, h3, h4, h5⟩ := p
  obtain ⟨DS, hDS, hES⟩ := h.row
  have hkL : Kept (LiveA K V w) w w' := h5.mono fun k hk => hk.t
  have hsl : ∀ k, V.stk.ownBlock = some k → BareT K V w k := fun k hk => ⟨hDS.lt k hk, fun e => h.ne (by rw [hk, e]), h.two k hk⟩
  have hl : ∀ k, LiveA K V w k → LiveA K { V with alt := dv' } w' k := fun k hk => ⟨Nat.lt_of_lt_of_le hk.1 h5.size, hk.2.1, hk.2.2.1, fun e => h4 k e hk.t⟩
  refine ⟨dv', ⟨h1, ⟨DS, hDS.kept h5 hsl, hES.kept hkL hl⟩, ⟨D', h2, hA.kept (Kept.refl _ _) hl⟩, h.ne, h3, fun k e ea => h4 k ea (hsl k e), fun a v hm => ⟨hl _ (h.mem a v hm).1, ?_⟩⟩, hkL, hl⟩
  rw [hkL.cell (h.mem a v hm).1]
  exact (h.mem a v hm).2

/-- The engine's cell. -/
theorem EngA.cell {K : EngK} {V : EngW} {E A : List (List Int)} {w : World} (h : EngA K V E A w) (i : Nat) : w.cell? ⟨K.e, i, none⟩ = (cellsA K V)[i]? := cell_at h.blk i
theorem EngA.lt {K : EngK} {V : EngW} {E A : List (List Int)} {w : World} (h : EngA K V E A w) : K.e < w.heap.size := lt_of_block h.blk
/-- From cells to cells, nothing but the engine's block written. -/
theorem EngA.put {K : EngK} {V V' : EngW} {E A : List (List Int)} {w w' : World} (h : EngA K V E A w) (hs : V'.stk = V.stk) (ht : V'.alt = V.alt) (hb : w'.heap[K.e]? = some (.cells (cellsA K V') 90 (0, 0)))
    (k : Kept (fun k => k < w.heap.size ∧ k ≠ K.e) w w') : EngA K V' E A w' ∧ ToA K V w V' w' := by
  have hl : ∀ k, LiveA K V w k → LiveA K V' w' k := fun j hj => ⟨Nat.lt_of_lt_of_le hj.1 k.size, hj.2.1, by rw [hs]; exact hj.2.2.1, by rw [ht]; exact hj.2.2.2⟩
  have k' : Kept (LiveA K V w) w w' := k.mono fun j hj => ⟨hj.1, hj.2.1⟩
  obtain ⟨D, hr, he⟩ := h.row
  obtain ⟨DA, hra, hea⟩ := h.arow
  refine ⟨⟨hb, ⟨D, ?_, he.kept k' hl⟩, ⟨DA, ?_, hea.kept k' hl⟩, by rw [hs]; exact h.ne, by rw [ht]; exact h.ane, by rw [hs, ht]; exact h.two, fun a v hm => ⟨hl _ (h.mem a v hm).1, by rw [k'.cell (h.mem a v hm).1]; exact (h.mem a v hm).2⟩⟩, k', hl⟩
  · rw [hs]
    exact hr.kept k fun g hg => ⟨hr.lt g hg, fun e => h.ne (by rw [hg, e])⟩
  · rw [ht]
    exact hra.kept k fun g hg => ⟨hra.lt g hg, fun e => h.ane (by rw [hg, e])⟩
theorem EngA.drewN {K : EngK} {V : EngW} {E A : List (List Int)} {w : World} (h : EngA K V E A w) (n : Nat) : EngA K V E A (w.drewN n) ∧ ToA K V w V (w.drewN n) :=
  h.put rfl rfl (block_drewN h.blk n) ((Kept.refl _ _).drewN n)
theorem EngA.drew {K : EngK} {V : EngW} {E A : List (List Int)} {w : World} (h : EngA K V E A w) : EngA K V E A w.drew ∧ ToA K V w V w.drew :=
  h.put rfl rfl (block_drew h.blk) (Kept.refl _ _).drew

/-- A plain state is one, its second stack empty. -/
theorem Eng.up {K : EngK} {V : EngV} {E : List (List Int)} {w : World} (h : Eng K V E w) : EngA K ⟨V.si, V.oi, V.off, V.pos, V.op, V.dat, V.stk, V.nops, .slice none 0 0⟩ E [] w := by
  have hl : ∀ k, Live K V w k → LiveA K ⟨V.si, V.oi, V.off, V.pos, V.op, V.dat, V.stk, V.nops, .slice none 0 0⟩ w k := fun k hk => ⟨hk.1, hk.2.1, hk.2.2, by simp [Value.ownBlock]⟩
  obtain ⟨D, hr, he⟩ := h.row
  exact ⟨h.blk, ⟨D, hr, he.kept (Kept.refl _ _) hl⟩, ⟨[], Row.nil _, .nil⟩, h.ne, by simp [Value.ownBlock], by simp [Value.ownBlock], fun a v hm => ⟨hl _ (h.mem a v hm).1, (h.mem a v hm).2⟩⟩
end Go.Proofs.YtaohcejbjeaemaaGreatDoor

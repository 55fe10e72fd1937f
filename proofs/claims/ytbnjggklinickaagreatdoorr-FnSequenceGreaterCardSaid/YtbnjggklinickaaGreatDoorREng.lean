import Derived.Test.YtbnjggklinickaaGreatDoorRMsn
import Derived.Test.YtbnjggklinickaaGreatDoorRNext
namespace Go.Proofs.YtbnjggklinickaaGreatDoorR
open Go Go.RowKit

/-- What of an engine stays as it was made. -/
structure EngK where
  e : Nat
  flags : Int
  ver : Int
  txin : Value
  txout : Value
  lock : Int
  fetch : Value
  scs : Nat
  scap : Nat
  sb : Nat
  so : Nat
  L : Nat
  cap : Nat
  amount : Int
  /-- cells that are read and never written -/
  mem : Addr → Value → Prop

/-- What of an engine goes on. -/
structure EngV where
  si : Int
  oi : Int
  off : Nat
  pos : Int
  op : Value
  dat : Value
  stk : Value
  nops : Int

def engCells (K : EngK) (V : EngV) : Array Value :=
  #[.int .u32 K.flags, .int .i32 K.ver, K.txin, K.txout, .int .u32 K.lock, .int .i64 0, .int .u16 0, .bool false, .pointer none, .pointer none, K.fetch,
    .slice (some ⟨K.scs, 0, none⟩) 2 K.scap, .int .i64 V.si, .int .i64 V.oi, .int .i64 0,
    .slice (some ⟨K.sb, K.so, none⟩) K.L K.cap, .int .u16 0, .int .i32 V.off, .int .i32 V.pos, V.op, V.dat, .nilIface,
    .slice none 0 0, V.stk, .bool false, .slice none 0 0, .bool false, .slice none 0 0, .int .i64 V.nops, .int .i64 0, .slice none 0 0, .int .i64 K.amount, .pointer none, .nilFunc]

/-- The blocks that are not written while an engine goes on. -/
def Live (K : EngK) (V : EngV) (w : World) (k : Nat) : Prop := k < w.heap.size ∧ k ≠ K.e ∧ V.stk.ownBlock ≠ some k

inductive Elems (M : Nat → Prop) (w : World) : List Value → List (List Int) → Prop where
  | nil : Elems M w [] []
  | snoc {D E x b} : Elems M w D E → Elem M w x b → Elems M w (D ++ [x]) (E ++ [b])

/-- An engine that goes on, with the stack's elements. -/
structure Eng (K : EngK) (V : EngV) (E : List (List Int)) (w : World) : Prop where
  blk : w.heap[K.e]? = some (.cells (engCells K V) 84 (0, 0))
  row : ∃ D, Row w V.stk D ∧ Elems (Live K V w) w D E
  ne : V.stk.ownBlock ≠ some K.e
  mem : ∀ a v, K.mem a v → Live K V w a.block ∧ w.cell? a = some v

/-- From one state to a later one: what was not to be written is as it was, and is not to be written still. -/
structure To (K : EngK) (V : EngV) (w : World) (V' : EngV) (w' : World) : Prop where
  kept : Kept (Live K V w) w w'
  live : ∀ k, Live K V w k → Live K V' w' k

theorem To.trans {K : EngK} {V V' V'' : EngV} {w w' w'' : World} (h : To K V w V' w') (h' : To K V' w' V'' w'') : To K V w V'' w'' :=
  ⟨h.kept.trans (h'.kept.mono h.live), fun k hk => h'.live k (h.live k hk)⟩
theorem Elems.kept {M M' : Nat → Prop} {w w' : World} {D : List Value} {E : List (List Int)} (h : Elems M w D E) (k : Kept M w w') (hM : ∀ k, M k → M' k) : Elems M' w' D E := by
  induction h with
  | nil => exact .nil
  | snoc _ hx ih => exact .snoc ih ((hx.kept k).mono hM)
theorem Elems.length {M : Nat → Prop} {w : World} {D : List Value} {E : List (List Int)} (h : Elems M w D E) : D.length = E.length := by
  induction h with
  | nil => rfl
  | snoc _ _ ih => simp [ih]
theorem Elems.last {M : Nat → Prop} {w : World} {D : List Value} {E : List (List Int)} {b : List Int} (h : Elems M w D (E ++ [b])) : ∃ D' x, D = D' ++ [x] ∧ Elems M w D' E ∧ Elem M w x b := by
  generalize hE : E ++ [b] = EE at h
  cases h with
  | nil => simp at hE
  | snoc h1 h2 =>
    obtain ⟨rfl, h3⟩ := List.append_inj' hE rfl
    obtain rfl := List.cons.inj h3 |>.1
    exact ⟨_, _, rfl, h1, h2⟩

theorem Eng.stkIn {K : EngK} {V : EngV} {E : List (List Int)} {w : World} (h : Eng K V E w) {D : List Value} (hr : Row w V.stk D) :
    StkIn (Live K V w) K.e 23 84 (engCells K V) w V.stk D :=
  ⟨fun _ hk => hk.1, h.blk, rfl, hr, h.ne, fun _ hk hl => hl.2.2 hk, fun hl => hl.2.1 rfl⟩

/-- A state after a walk on the stack. -/
theorem Eng.post {K : EngK} {V : EngV} {E E' : List (List Int)} {w w' : World} (h : Eng K V E w) {D' : List Value} (p : StkPost (Live K V w) K.e 23 84 (engCells K V) w w' D') (hE : Elems (Live K V w) w' D' E') :
    ∃ s, Eng K { V with stk := s } E' w' ∧ To K V w { V with stk := s } w' := by
  obtain ⟨dv', h1, h2, h3, h4, h5⟩ := p
  have hl : ∀ k, Live K V w k → Live K { V with stk := dv' } w' k := fun k hk => ⟨Nat.lt_of_lt_of_le hk.1 h5.size, hk.2.1, fun e => h4 k e hk⟩
  refine ⟨dv', ⟨h1, ⟨D', h2, hE.kept (Kept.refl _ _) hl⟩, h3, fun a v hm => ⟨hl _ (h.mem a v hm).1, ?_⟩⟩, h5, hl⟩
  rw [h5.cell (h.mem a v hm).1]
  exact (h.mem a v hm).2

/-- The engine's cell. -/
theorem Eng.cell {K : EngK} {V : EngV} {E : List (List Int)} {w : World} (h : Eng K V E w) (i : Nat) : w.cell? ⟨K.e, i, none⟩ = (engCells K V)[i]? := cell_at h.blk i
/-- From cells to cells, nothing but the engine's block written. -/
theorem Eng.put {K : EngK} {V V' : EngV} {E : List (List Int)} {w w' : World} (h : Eng K V E w) (hs : V'.stk = V.stk) (hb : w'.heap[K.e]? = some (.cells (engCells K V') 84 (0, 0)))
    (k : Kept (fun k => k < w.heap.size ∧ k ≠ K.e) w w') : Eng K V' E w' ∧ To K V w V' w' := by
  have hl : ∀ k, Live K V w k → Live K V' w' k := fun j hj => ⟨Nat.lt_of_lt_of_le hj.1 k.size, hj.2.1, by rw [hs]; exact hj.2.2⟩
  have k' : Kept (Live K V w) w w' := k.mono fun j hj => ⟨hj.1, hj.2.1⟩
  obtain ⟨D, hr, he⟩ := h.row
  refine ⟨⟨hb, ⟨D, ?_, he.kept k' hl⟩, by rw [hs]; exact h.ne, fun a v hm => ⟨hl _ (h.mem a v hm).1, by rw [k'.cell (h.mem a v hm).1]; exact (h.mem a v hm).2⟩⟩, k', hl⟩
  rw [hs]
  refine hr.kept k fun g hg => ⟨hr.lt g hg, fun e => h.ne (by rw [hg, e])⟩
end Go.Proofs.YtbnjggklinickaaGreatDoorR

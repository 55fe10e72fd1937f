/-
  Words on memory for the walks of the script engine: what is kept, what a slice of bytes reads as, a row of slices that a stack owns.
  No condition: these are definitions and small laws over any world.
-/
import Derived.WalkKit
import Derived.WalkLawsBesides
import Derived.WalkSpells
import Derived.Lib.Hide
import Derived.Laws.AppendOwnNone
import Derived.Test.YtaohcejbjeaemaaGreatDoorChecked
namespace Go.Proofs.YtaohcejbjeaemaaGreatDoor
open Go Go.RowKit

/-- The blocks of M are as they were; no block has gone; the streams are as they were. -/
structure Kept (M : Nat → Prop) (w w' : World) : Prop where
  os : w'.os = w.os
  tape : w'.tape = w.tape
  output : w'.output = w.output
  size : w.heap.size ≤ w'.heap.size
  block : ∀ k, M k → w'.heap[k]? = w.heap[k]?

theorem Kept.refl (M : Nat → Prop) (w : World) : Kept M w w := ⟨rfl, rfl, rfl, Nat.le_refl _, fun _ _ => rfl⟩
theorem Kept.trans {M : Nat → Prop} {a b c : World} (h : Kept M a b) (k : Kept M b c) : Kept M a c :=
  ⟨k.os.trans h.os, k.tape.trans h.tape, k.output.trans h.output, Nat.le_trans h.size k.size, fun i hi => (k.block i hi).trans (h.block i hi)⟩
theorem Kept.mono {M M' : Nat → Prop} {w w' : World} (h : Kept M w w') (hM : ∀ k, M' k → M k) : Kept M' w w' := ⟨h.os, h.tape, h.output, h.size, fun k hk => h.block k (hM k hk)⟩
theorem Kept.drew {M : Nat → Prop} {a w : World} (h : Kept M a w) : Kept M a w.drew := ⟨h.os, h.tape, h.output, h.size, h.block⟩
theorem Kept.drewN {M : Nat → Prop} {a w : World} (h : Kept M a w) (n : Nat) : Kept M a (w.drewN n) := ⟨h.os, h.tape, h.output, h.size, h.block⟩
theorem Kept.setCell {M : Nat → Prop} {a w : World} (h : Kept M a w) {p : Addr} (hp : ¬ M p.block) (u : Value) : Kept M a (w.setCell p u) :=
  h.trans ⟨rfl, rfl, rfl, by simp [World.setCell], fun k hk => Below.heap_setCell _ _ _ _ (fun e => hp (e ▸ hk))⟩
theorem Kept.alloc {M : Nat → Prop} {a w : World} (h : Kept M a w) (hM : ∀ k, M k → k < w.heap.size) (o : Obj) : Kept M a (w.alloc o) :=
  h.trans ⟨rfl, rfl, rfl, by simp, fun k hk => Below.heap_alloc _ _ _ (hM k hk)⟩
theorem Kept.grown {M : Nat → Prop} {a w w' : World} {row : Option Nat} (h : Kept M a w) (hg : w.grownBy w' row) (hM : ∀ k, M k → k < w.heap.size) (hr : ∀ k, row = some k → ¬ M k) : Kept M a w' :=
  h.trans ⟨hg.os, hg.tape, hg.output, hg.size, fun k hk => hg.block k (hM k hk) (fun e => hr k e.symm hk)⟩
theorem Kept.lt {M : Nat → Prop} {w w' : World} (h : Kept M w w') (hM : ∀ k, M k → k < w.heap.size) : ∀ k, M k → k < w'.heap.size := fun k hk => Nat.lt_of_lt_of_le (hM k hk) h.size
theorem Kept.below {B : Nat} {w w' : World} (h : Kept (fun k => k < B) w w') : Below B w w' := ⟨h.os, h.tape, h.output, h.size, h.block⟩
theorem kept_of_below {B : Nat} {w w' : World} (h : Below B w w') : Kept (fun k => k < B) w w' := ⟨h.os, h.tape, h.output, h.size, h.block⟩
theorem Kept.cell {M : Nat → Prop} {w w' : World} (h : Kept M w w') {p : Addr} (hp : M p.block) : w'.cell? p = w.cell? p := World.cell?_of_block (w := w) (h.block p.block hp)

/-- A cell of a block that is known whole. -/
theorem cell_at {w : World} {b : Nat} {c : Array Value} {t : TypeId} {f : Nat × Nat} (h : w.heap[b]? = some (.cells c t f)) (i : Nat) : w.cell? ⟨b, i, none⟩ = c[i]? := by simp [World.cell?, h]
theorem free_at {w : World} {b : Nat} {c : Array Value} {t : TypeId} (h : w.heap[b]? = some (.cells c t (0, 0))) (i : Nat) : w.frozen? ⟨b, i, none⟩ = false := by simp [World.frozen?, h]
theorem block_setCell {w : World} {b : Nat} {c : Array Value} {t : TypeId} {f : Nat × Nat} (h : w.heap[b]? = some (.cells c t f)) (i : Nat) (v : Value) : (w.setCell ⟨b, i, none⟩ v).heap[b]? = some (.cells (c.setIfInBounds i v) t f) := by
  have hlt := lt_of_block h
  have h' : w.heap[b] = .cells c t f := by simpa [Array.getElem?_eq_getElem hlt] using h
  show (w.heap.modify b _)[b]? = _
  rw [Array.getElem?_eq_getElem (by simpa using hlt), Array.getElem_modify_self, h']
  rfl
theorem block_setCell_other {w : World} {b : Nat} {o : Option Obj} (h : w.heap[b]? = o) (a : Addr) (v : Value) (hb : a.block ≠ b) : (w.setCell a v).heap[b]? = o := by
  rw [Below.heap_setCell _ _ _ _ (fun e => hb e.symm), h]
theorem block_alloc {w : World} {b : Nat} {x : Obj} (h : w.heap[b]? = some x) (o : Obj) : (w.alloc o).heap[b]? = some x := by
  rw [Below.heap_alloc _ _ _ (lt_of_block h), h]
theorem block_drew {w : World} {b : Nat} {x : Option Obj} (h : w.heap[b]? = x) : w.drew.heap[b]? = x := h
theorem block_drewN {w : World} {b : Nat} {x : Option Obj} (h : w.heap[b]? = x) (n : Nat) : (w.drewN n).heap[b]? = x := h
theorem block_new (w : World) (x : Obj) : (w.alloc x).heap[w.heap.size]? = some x := heap_alloc_new w x

theorem block_new_at (w : World) (x : Obj) (n : Nat) (h : w.heap.size = n) : (w.alloc x).heap[n]? = some x := by subst h; exact block_new w x

/-- A slice of bytes lies in blocks of M and reads as bs. -/
def Elem (M : Nat → Prop) (w : World) (x : Value) (bs : List Int) : Prop :=
  ∃ p c, x = .slice p bs.length c ∧ bs.length ≤ c ∧ c ≤ maxLen ∧ (p = none → c = 0) ∧ (∀ n ∈ bs, 0 ≤ n ∧ n ≤ 255) ∧
    (0 < bs.length → ∃ b o, p = some ⟨b, o, none⟩ ∧ M b ∧ ∀ i, i < bs.length → w.cell? ⟨b, o + i, none⟩ = some (.int .u8 (bs.getD i 0)))

theorem Elem.kept {M : Nat → Prop} {w w' : World} {x : Value} {bs : List Int} (h : Elem M w x bs) (k : Kept M w w') : Elem M w' x bs := by
  obtain ⟨p, c, rfl, h1, h2, h3, h4, h5⟩ := h
  refine ⟨p, c, rfl, h1, h2, h3, h4, fun hb => ?_⟩
  obtain ⟨b, o, hp, hM, hc⟩ := h5 hb
  exact ⟨b, o, hp, hM, fun i hi => (k.cell (p := ⟨b, o + i, none⟩) hM).trans (hc i hi)⟩
theorem Elem.mono {M M' : Nat → Prop} {w : World} {x : Value} {bs : List Int} (h : Elem M w x bs) (hM : ∀ k, M k → M' k) : Elem M' w x bs := by
  obtain ⟨p, c, rfl, h1, h2, h3, h4, h5⟩ := h
  refine ⟨p, c, rfl, h1, h2, h3, h4, fun hb => ?_⟩
  obtain ⟨b, o, hp, hMb, hc⟩ := h5 hb
  exact ⟨b, o, hp, hM b hMb, hc⟩
theorem Elem.nil (M : Nat → Prop) (w : World) : Elem M w (.slice none 0 0) [] := ⟨none, 0, rfl, Nat.le_refl _, by simp [maxLen], fun _ => rfl, by simp, by simp⟩
theorem Elem.one {M : Nat → Prop} {w : World} {x : Value} {bs : List Int} (h : Elem M w x bs) : x.oneCell' = true := by obtain ⟨p, c, rfl, _⟩ := h; rfl

/-- New blocks, from w to w'. -/
def NewIn (w w' : World) (k : Nat) : Prop := w.heap.size ≤ k ∧ k < w'.heap.size

/-- Bytes that the call has made itself. -/
theorem Elem.of_owns {B : Nat} {w : World} {v : Value} {n : Nat} {bs : List Int} (h : w.ownsRow B 5 1 v n (bs.map (Value.int .u8))) (hb : ∀ m ∈ bs, 0 ≤ m ∧ m ≤ 255) : Elem (fun k => B ≤ k ∧ k < w.heap.size) w v bs := by
  have hn : bs.length = n := by simpa using h.1
  subst hn
  rcases h.2 with ⟨rfl, h0⟩ | ⟨g, cap, cur, rfl, hB, hg, h1, h2, h3, h4⟩
  · obtain rfl : bs = [] := List.eq_nil_of_length_eq_zero h0
    exact Elem.nil _ _
  · refine ⟨_, cap, rfl, h1, h2, by simp, hb, fun _ => ⟨g, 0, rfl, ⟨hB, lt_of_block hg⟩, fun i hi => ?_⟩⟩
    rw [cell_at hg]
    have e : (cur.toList.take (bs.length * 1))[i]? = (bs.map (Value.int .u8))[i]? := by rw [h4]
    rw [List.getElem?_take, if_pos (by omega)] at e
    simp only [Nat.zero_add, ← Array.getElem?_toList, e]
    simp [List.getD, hi]

/-- append of bytes that lie anywhere to bytes of the call's own. -/
theorem wpList_append_bytes {P : Program} {w : World} {ops : Array Oper} {rest : List Oper} {o : Oper} {a : Act} {Q : Exit → Act → World → Prop} (hgd : o.guard = none) (s x : Operand) (t : TypeId)
    (ho : o.op = .call { callee := .builtin .append, args := #[s, x], argTypes := #[t, t] })
    (B : Nat) {M : Nat → Prop} (e : TypeId) (i : TypeInfo) (ht : P.underlying t = some (.slice e)) (hi : P.info? e = some i) (hz : i.zero = some (.int .u8 0)) (hsize : i.size = 1) (hby : i.bytes = 1)
    (v : Value) (xs : List Int) (hs : a.eval s = v) (hown : w.ownsRow B e 1 v xs.length (xs.map (Value.int .u8)))
    (y : Value) (ys : List Int) (hx : a.eval x = y) (hy : Elem M w y ys) (h63 : xs.length + ys.length ≤ 140737488355328) (hbase : B ≤ w.heap.size)
    (h : ∀ v' w', w'.ownsRow B e 1 v' (xs ++ ys).length ((xs ++ ys).map (Value.int .u8)) → w.grownBy w' v.ownBlock → wpList P ops Q rest (a.put o.dst v') w') : wpList P ops Q (o :: rest) a w := by
  obtain ⟨p, c, rfl, h1, h2, h3, h4, h5⟩ := hy
  cases p with
  | none =>
    obtain rfl := h3 rfl
    obtain rfl : ys = [] := List.eq_nil_of_length_eq_zero (by omega)
    exact wpList_append_own_none hgd s x t ho B e i 1 ht hi v xs.length _ hs hown hx (h v w (by simpa using hown) (World.grownBy.refl _ _))
  | some ad =>
    refine wpList_append_own _ hgd s x t ho B e i (.int .u8 0) 1 1 ht hi hz hsize hby rfl (by decide) v xs.length _ hs hown ad ys.length c (ys.map (Value.int .u8)) hx (by simp) ?_ (ints_oneCell _ _) (by simp only [maxLen]; omega) (by omega) hbase ?_
    · intro j u hj
      have hlt : j < ys.length := by have := (List.getElem?_eq_some_iff.1 hj).1; simpa using this
      obtain ⟨b, o', hp, _, hc⟩ := h5 (by omega)
      obtain rfl := Option.some.inj hp
      rw [Addr.add_lit, hc j hlt]
      rw [List.getElem?_map] at hj
      simp [hlt] at hj
      simp [List.getD, hlt, hj]
    · intro v' w' ho' hg _
      exact h v' w' (by simpa using ho') hg

/-- A stack's row: the slice v, of the elements D, at the head of a block of its own (or nil). -/
def Row (w : World) (v : Value) (D : List Value) : Prop := w.ownsRow 0 25 1 v D.length D

theorem Row.form {w : World} {v : Value} {D : List Value} (h : Row w v D) : (v = .slice none 0 0 ∧ D = []) ∨
    ∃ g cap cur, v = .slice (some ⟨g, 0, none⟩) D.length cap ∧ w.heap[g]? = some (.cells cur 25 (0, 0)) ∧ D.length ≤ cap ∧ cap ≤ maxLen ∧ cur.size = cap ∧ cur.toList.take D.length = D := by
  rcases h.2 with ⟨hv, hn⟩ | ⟨g, cap, cur, hv, _, hg, h1, h2, h3, h4⟩
  · exact .inl ⟨hv, List.eq_nil_of_length_eq_zero hn⟩
  · exact .inr ⟨g, cap, cur, hv, hg, h1, h2, by simpa using h3, by simpa using h4⟩
theorem Row.mk {w : World} {g cap : Nat} {cur : Array Value} {D : List Value} (hg : w.heap[g]? = some (.cells cur 25 (0, 0))) (h1 : D.length ≤ cap) (h2 : cap ≤ maxLen) (h3 : cur.size = cap) (h4 : cur.toList.take D.length = D) :
    Row w (.slice (some ⟨g, 0, none⟩) D.length cap) D := ⟨by simp, .inr ⟨g, cap, cur, rfl, Nat.zero_le _, hg, h1, h2, by simpa using h3, by simpa using h4⟩⟩
theorem Row.nil (w : World) : Row w (.slice none 0 0) [] := World.ownsRow_nil _ _ _ _
theorem Row.of_block {w w' : World} {v : Value} {D : List Value} (h : Row w v D) (hb : ∀ g, v.ownBlock = some g → w'.heap[g]? = w.heap[g]?) : Row w' v D := by
  rcases h.form with ⟨rfl, rfl⟩ | ⟨g, cap, cur, rfl, hg, h1, h2, h3, h4⟩
  · exact Row.nil _
  · exact Row.mk ((hb g rfl).trans hg) h1 h2 h3 h4
theorem Row.kept {M : Nat → Prop} {w w' : World} {v : Value} {D : List Value} (h : Row w v D) (k : Kept M w w') (hM : ∀ g, v.ownBlock = some g → M g) : Row w' v D :=
  h.of_block fun g hg => k.block g (hM g hg)
theorem Row.lt {w : World} {v : Value} {D : List Value} (h : Row w v D) : ∀ k, v.ownBlock = some k → k < w.heap.size := fun k hk => (World.ownsRow.lt h k hk).2
theorem Row.setCell {w : World} {v : Value} {D : List Value} (h : Row w v D) {a : Addr} (ha : v.ownBlock ≠ some a.block) (u : Value) : Row (w.setCell a u) v D :=
  h.of_block fun g hg => Below.heap_setCell _ _ _ _ (fun e => ha (by rw [hg, e]))
theorem Row.alloc {w : World} {v : Value} {D : List Value} (h : Row w v D) (o : Obj) : Row (w.alloc o) v D :=
  h.of_block fun g hg => Below.heap_alloc _ _ _ (h.lt g hg)

/-- What a walk on a stack leaves: block b of the stack's own struct (its cell o holds the row's slice), the row, and what is kept. -/
def StkPost (M : Nat → Prop) (b o : Nat) (T : TypeId) (c : Array Value) (w w' : World) (D' : List Value) : Prop :=
  ∃ dv', w'.heap[b]? = some (.cells (c.setIfInBounds o dv') T (0, 0)) ∧ Row w' dv' D' ∧ dv'.ownBlock ≠ some b ∧ (∀ k, dv'.ownBlock = some k → ¬ M k) ∧ Kept M w w'

/-- What a walk on a stack takes. -/
structure StkIn (M : Nat → Prop) (b o : Nat) (T : TypeId) (c : Array Value) (w : World) (dv : Value) (D : List Value) : Prop where
  lt : ∀ k, M k → k < w.heap.size
  blk : w.heap[b]? = some (.cells c T (0, 0))
  cell : c[o]? = some dv
  row : Row w dv D
  nb : dv.ownBlock ≠ some b
  nM : ∀ k, dv.ownBlock = some k → ¬ M k
  nMb : ¬ M b

theorem StkIn.oc {M : Nat → Prop} {b o : Nat} {T : TypeId} {c : Array Value} {w : World} {dv : Value} {D : List Value} (h : StkIn M b o T c w dv D) : o < c.size := (Array.getElem?_eq_some_iff.1 h.cell).1

/-- From one walk's end to the next one's begin. -/
theorem StkPost.next {M : Nat → Prop} {b o : Nat} {T : TypeId} {c : Array Value} {w w' : World} {D : List Value} {D' : List Value} {dv : Value} (h : StkIn M b o T c w dv D) (p : StkPost M b o T c w w' D') :
    ∃ dv', StkIn M b o T (c.setIfInBounds o dv') w' dv' D' ∧ Kept M w w' := by
  obtain ⟨dv', h1, h2, h3, h4, h5⟩ := p
  refine ⟨dv', ⟨h5.lt h.lt, h1, ?_, h2, h3, h4, h.nMb⟩, h5⟩
  have := h.oc
  simp [this]
theorem StkPost.of_next {M : Nat → Prop} {b o : Nat} {T : TypeId} {c : Array Value} {w w' w'' : World} {D'' : List Value} {dv' : Value} (k : Kept M w w') (p : StkPost M b o T (c.setIfInBounds o dv') w' w'' D'') :
    StkPost M b o T c w w'' D'' := by
  obtain ⟨dv'', h1, h2, h3, h4, h5⟩ := p
  refine ⟨dv'', ?_, h2, h3, h4, k.trans h5⟩
  rw [h1]
  simp
theorem StkPost.same {M : Nat → Prop} {b o : Nat} {T : TypeId} {c : Array Value} {w w' : World} {D : List Value} {dv : Value} (h : StkIn M b o T c w dv D) (k : Kept M w w') (hb : w'.heap[b]? = w.heap[b]?) (hr : Row w' dv D) : StkPost M b o T c w w' D := by
  refine ⟨dv, ?_, hr, h.nb, h.nM, k⟩
  rw [hb, h.blk]
  have := h.cell
  congr 2
  apply Array.ext_getElem?
  intro i
  rw [Array.getElem?_setIfInBounds]
  split
  · rename_i e; subst e; rw [this]; simp [h.oc]
  · rfl

/-- append to a stack's row: it lies where it lay, or in a new block. -/
theorem wpList_append_row {P : Program} {w : World} {ops : Array Oper} {rest : List Oper} {o : Oper} {a : Act} {Q : Exit → Act → World → Prop} (hgd : o.guard = none) (s x : Operand) (t : TypeId)
    (ho : o.op = .call { callee := .builtin .append, args := #[s, x], argTypes := #[t, t] })
    (i : TypeInfo) (ht : P.underlying t = some (.slice 25)) (hi : P.info? 25 = some i) (hz : i.zero = some (.slice none 0 0)) (hsize : i.size = 1) (hby : i.bytes = 24)
    (v : Value) (D : List Value) (hs : a.eval s = v) (hr : Row w v D)
    (ad : Addr) (m c : Nat) (news : List Value) (hx : a.eval x = .slice (some ad) m c) (hl : news.length = m) (hnews : ∀ j u, news[j]? = some u → w.cell? (ad.add j) = some u) (h1 : ∀ u ∈ news, u.oneCell' = true)
    (h63 : D.length + m ≤ 1000000000)
    (h : ∀ v' w', Row w' v' (D ++ news) → (v'.ownBlock = v.ownBlock ∨ ∃ k, v'.ownBlock = some k ∧ w.heap.size ≤ k) → w.grownBy w' v.ownBlock → wpList P ops Q rest (a.put o.dst v') w') : wpList P ops Q (o :: rest) a w := by
  have hl' : news.length = m * 1 := by omega
  have hlen : (D ++ news).length = D.length + m := by simp [hl]
  have grown : (v = .slice none 0 0 ∨ 0 < D.length + m) → ∀ v' w', w'.ownsRow w.heap.size 25 1 v' (D.length + m) (D ++ news) → w.grownBy w' none → wpList P ops Q rest (a.put o.dst v') w' := by
    intro hpos v' w' ho' hg
    refine h v' w' ?_ ?_ ⟨hg.os, hg.tape, hg.output, hg.size, fun k hk _ => hg.block k hk (by simp)⟩
    · refine ⟨by simp, ?_⟩
      rcases ho'.2 with ⟨h1, h2⟩ | ⟨g, cap, cur, h1, h2, h3, h4⟩
      · exact .inl ⟨h1, by omega⟩
      · exact .inr ⟨g, cap, cur, by rw [h1, hlen], Nat.zero_le _, h3, by rw [hlen]; exact h4⟩
    · rcases ho'.2 with ⟨rfl, h2⟩ | ⟨g, cap, cur, rfl, h2, h3⟩
      · rcases hpos with rfl | hpos
        · exact .inl rfl
        · omega
      · exact .inr ⟨g, rfl, h2⟩
  rcases hr.form with ⟨rfl, rfl⟩ | ⟨g, cap, cur, rfl, hg, h2, h3, h4, h5⟩
  · refine wpList_append_own w hgd s x t ho w.heap.size 25 i (.slice none 0 0) 1 24 ht hi hz hsize hby rfl (by decide) _ 0 [] hs (World.ownsRow_nil _ _ _ _) ad m c news hx hl' hnews h1 (by unfold maxLen; omega) (by omega) (Nat.le_refl _) ?_
    intro v' w' h1 h2 _
    exact grown (.inl rfl) v' w' (by simpa using h1) ⟨h2.os, h2.tape, h2.output, h2.size, fun k hk _ => h2.block k hk (by simp [Value.ownBlock])⟩
  · by_cases hroom : D.length + m ≤ cap
    · refine wpList_append_fits w hgd s x t ho 0 25 i 1 ht hi hsize g D.length cap D hs hr ad m c news hx hl' hnews h1 hroom ?_
      intro w' h1 h2
      exact h _ w' (by unfold Row; rw [hlen]; exact h1) (.inl rfl) h2
    · refine wpList_append_grows w hgd s x t ho 25 i (.slice none 0 0) 1 24 ht hi hz hsize hby rfl (by decide) _ D.length cap D hs (by simp) (by omega) ?_ ad m c news hx hl' hnews h1 (by omega) (by unfold maxLen; omega) (by omega) (grown (.inr (by omega)))
      intro b hb j u hj
      obtain rfl := Option.some.inj hb
      exact World.ownsRow.cells hr (g := g) rfl j u hj

end Go.Proofs.YtaohcejbjeaemaaGreatDoor
namespace Go.Proofs.YtaohcejbjeaemaaGreatDoor
open Go Go.RowKit
theorem info_u8 : (Tryz.prog.info? 5).map (fun i => (i.zero, i.size, i.bytes)) = some (some (.int .u8 0), 1, 1) := by kernel_rfl
theorem info_sl : (Tryz.prog.info? 25).map (fun i => (i.zero, i.size, i.bytes)) = some (some (.slice none 0 0), 1, 24) := by kernel_rfl

/-- Where a call only makes memory: what it leaves. -/
def Copy (bs : List Int) (w : World) (e : Ending) (w' : World) : Prop := ∃ v, e = .returned v ∧ Below w.heap.size w w' ∧ Elem (NewIn w w') w' v bs

set_option maxHeartbeats 400000 in
theorem copied_any {M : Nat → Prop} {x : Value} {bs : List Int} {w : World} (hx : Elem M w x bs) (hM : ∀ k, M k → k < w.heap.size) (hlen : bs.length ≤ 140737488355328) :
    Calls Tryz.prog 22 #[x] w (Copy bs w) := by
  obtain ⟨i0, hi, hz0, hz1, hz2⟩ := info_parts info_u8
  have hb := hx
  obtain ⟨_, _, _, _, _, _, hb5, _⟩ := hb
  have hx1 : Elem M (w.alloc (.cells #[] 5)) x bs := hx.kept ((Kept.refl M w).alloc hM _)
  have hx2 := Lib.hid hx1
  have hx3 := Lib.hid hx
  clear hx1 hx
  go_enter Tryz.func22, Tryz.ntmps22
  go_wp2_with (at_builtin; refine wpList_append_bytes rfl _ _ 25 rfl w.heap.size 5 i0 Tryz.underlying25 hi hz0 hz1 hz2 _ [] rfl (World.ownsRow_made _ _ _ (Nat.le_refl _) (Nat.zero_le _) rfl) _ bs rfl hx2.out (by simpa using hlen) (by simp) ?_)
  intro v' w' ho hg
  go_wp2_with fail
  go_ret
  refine ⟨_, rfl, ?_, ?_⟩
  · exact ((Below.refl _ _).alloc (Nat.le_refl _) _).grown hg (by simp) (fun k hk => by simp [Value.ownBlock] at hk; omega)
  · exact Elem.of_owns (by simpa using ho) hb5
end Go.Proofs.YtaohcejbjeaemaaGreatDoor

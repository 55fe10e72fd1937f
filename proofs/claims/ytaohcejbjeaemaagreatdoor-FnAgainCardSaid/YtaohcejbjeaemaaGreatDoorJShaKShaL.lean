import Derived.Test.YtaohcejbjeaemaaGreatDoorJShaJ
import Derived.Laws.CopyOwn
import Derived.IntWalk
import Derived.LoopN
import Derived.StillTailTactics
import Derived.Deep.Cut
namespace Go.Proofs.YtaohcejbjeaemaaGreatDoor
open Go Go.RowKit

theorem block_any {w : World} {b nx pb po n k : Nat} (h : DigAt w b nx) (hp : Bytes64 w pb po n) (hn : n ≤ k) (hk : k ≤ maxLen) (ht : TableAt w) :
    Calls Tryz.prog 297 #[.pointer (some ⟨b, 0, none⟩), .slice (some ⟨pb, po, none⟩) n k] w fun e w' => e = .returned (.tuple #[]) ∧ DigAt w' b nx ∧ Kept (fun k => k < w.heap.size ∧ k ≠ b) w w' ∧ (∀ i, 8 ≤ i → w'.cell? ⟨b, i, none⟩ = w.cell? ⟨b, i, none⟩) := by
  have H := Lib.hid (blockGen_any h hp hn hk ht)
  clear h hp hn hk ht
  go_enter Tryz.func297, Tryz.ntmps297
  go_wp2_with fail
  refine H.out.mono ?_
  rintro e w1 ⟨rfl, hw⟩
  have HW := Lib.hid hw
  clear hw
  go_wp2_with fail
  go_end0
  exact ⟨rfl, HW.out⟩

/-- A digest's block, its length told. -/
def DigW (w : World) (b nx : Nat) (L : Int) : Prop := ∃ c, w.heap[b]? = some (.cells c 281 (0, 0)) ∧ Dig c nx ∧ c[73]? = some (.int .u64 L)

theorem DigW.at {w : World} {b nx : Nat} {L : Int} (h : DigW w b nx L) : DigAt w b nx := by
  obtain ⟨c, h1, h2, _⟩ := h
  exact ⟨c, h1, h2⟩
theorem DigW.lt {w : World} {b nx : Nat} {L : Int} (h : DigW w b nx L) : b < w.heap.size := lt_of_block h.choose_spec.1
theorem DigW.c72 {w : World} {b nx : Nat} {L : Int} (h : DigW w b nx L) : w.cell? ⟨b, 72, none⟩ = some (.int .i64 nx) := by
  obtain ⟨c, h1, h2, _⟩ := h
  rw [cell_at h1]; exact h2.nx
theorem DigW.c73 {w : World} {b nx : Nat} {L : Int} (h : DigW w b nx L) : w.cell? ⟨b, 73, none⟩ = some (.int .u64 L) := by
  obtain ⟨c, h1, _, h3⟩ := h
  rw [cell_at h1]; exact h3
theorem DigW.free {w : World} {b nx : Nat} {L : Int} (h : DigW w b nx L) (i : Nat) : w.frozen? ⟨b, i, none⟩ = false := by
  obtain ⟨c, h1, _⟩ := h
  exact free_at h1 i
theorem DigW.setL {w : World} {b nx : Nat} {L : Int} (h : DigW w b nx L) (n : Int) : DigW (w.setCell ⟨b, 73, none⟩ (.int .u64 n)) b nx n := by
  obtain ⟨c, h1, h2, _⟩ := h
  exact ⟨_, block_setCell h1 73 _, h2.setL n, by rw [getSet (by rw [h2.size]; decide), if_pos rfl]⟩
theorem DigW.setN {w : World} {b nx : Nat} {L : Int} (h : DigW w b nx L) (m : Nat) : DigW (w.setCell ⟨b, 72, none⟩ (.int .i64 m)) b m L := by
  obtain ⟨c, h1, h2, h3⟩ := h
  exact ⟨_, block_setCell h1 72 _, h2.setN m, by rw [getSet (by rw [h2.size]; decide), if_neg (by decide)]; exact h3⟩
theorem DigW.drew {w : World} {b nx : Nat} {L : Int} (h : DigW w b nx L) : DigW w.drew b nx L := by
  obtain ⟨c, h1, h2⟩ := h
  exact ⟨c, block_drew h1, h2⟩
theorem DigW.of {w w' : World} {b nx : Nat} {L : Int} (h : DigW w b nx L) (h' : DigAt w' b nx) (hc : ∀ i, 8 ≤ i → w'.cell? ⟨b, i, none⟩ = w.cell? ⟨b, i, none⟩) : DigW w' b nx L := by
  obtain ⟨c, h1, h2⟩ := h'
  refine ⟨c, h1, h2, ?_⟩
  have := hc 73 (by decide)
  rw [h.c73, cell_at h1] at this
  exact this
theorem DigW.kept {w w' : World} {b nx : Nat} {L : Int} (h : DigW w b nx L) (hb : w'.heap[b]? = w.heap[b]?) : DigW w' b nx L := by
  obtain ⟨c, h1, h2⟩ := h
  exact ⟨c, hb.trans h1, h2⟩

/-- Bytes that are read. -/
def BytesAt (w : World) (pb po : Nat) (bs : List Int) : Prop := (∀ i, i < bs.length → w.cell? ⟨pb, po + i, none⟩ = some (.int .u8 (bs.getD i 0))) ∧ ∀ m ∈ bs, 0 ≤ m ∧ m ≤ 255
theorem BytesAt.to64 {w : World} {pb po : Nat} {bs : List Int} (h : BytesAt w pb po bs) : Bytes64 w pb po bs.length := fun i hi => ⟨_, h.1 i hi⟩
theorem BytesAt.drop {w : World} {pb po : Nat} {bs : List Int} (h : BytesAt w pb po bs) (m : Nat) : BytesAt w pb (po + m) (bs.drop m) := by
  refine ⟨fun i hi => ?_, fun x hx => h.2 x (List.mem_of_mem_drop hx)⟩
  rw [List.length_drop] at hi
  have := h.1 (m + i) (by omega)
  rw [Nat.add_assoc, this]
  simp [List.getD]
theorem BytesAt.take {w : World} {pb po : Nat} {bs : List Int} (h : BytesAt w pb po bs) (m : Nat) : BytesAt w pb po (bs.take m) := by
  refine ⟨fun i hi => ?_, fun x hx => h.2 x (List.mem_of_mem_take hx)⟩
  rw [List.length_take] at hi
  rw [h.1 i (by omega)]
  simp [List.getD, show i < m by omega]
theorem BytesAt.kept {M : Nat → Prop} {w w' : World} {pb po : Nat} {bs : List Int} (h : BytesAt w pb po bs) (k : Kept M w w') (hp : M pb) : BytesAt w' pb po bs :=
  ⟨fun i hi => (k.cell (p := ⟨pb, po + i, none⟩) hp).trans (h.1 i hi), h.2⟩

/-- Bytes laid over a digest's block of bytes. -/
theorem Dig.lay {c : Array Value} {nx : Nat} (d : Dig c nx) {off : Nat} {bs : List Int} (h8 : 8 ≤ off) (h72 : off + bs.length ≤ 72) (hb : ∀ m ∈ bs, 0 ≤ m ∧ m ≤ 255) :
    Dig (c.toList.take off ++ (bs.map (Value.int .u8) ++ c.toList.drop (off + (bs.map (Value.int .u8)).length))).toArray nx := by
  have hs : c.toList.length = 75 := by simpa using d.size
  have lo : ∀ i, i < off → (c.toList.take off ++ (bs.map (Value.int .u8) ++ c.toList.drop (off + (bs.map (Value.int .u8)).length))).toArray[i]? = c[i]? := fun i hi => by
    rw [List.getElem?_toArray, List.getElem?_append_left (by rw [List.length_take]; omega), List.getElem?_take, if_pos hi, Array.getElem?_toList]
  have hi' : ∀ i, off + bs.length ≤ i → (c.toList.take off ++ (bs.map (Value.int .u8) ++ c.toList.drop (off + (bs.map (Value.int .u8)).length))).toArray[i]? = c[i]? := fun i hi => by
    rw [List.getElem?_toArray, List.getElem?_append_right (by rw [List.length_take]; omega), List.getElem?_append_right (by rw [List.length_take, List.length_map]; omega), List.getElem?_drop, List.length_take, List.length_map, ← Array.getElem?_toList]
    congr 1
    omega
  have mid : ∀ j, j < bs.length → (c.toList.take off ++ (bs.map (Value.int .u8) ++ c.toList.drop (off + (bs.map (Value.int .u8)).length))).toArray[off + j]? = some (.int .u8 (bs.getD j 0)) := fun j hj => by
    rw [List.getElem?_toArray, List.getElem?_append_right (by rw [List.length_take]; omega), List.getElem?_append_left (by rw [List.length_take, List.length_map]; omega), List.length_take, List.getElem?_map]
    have e : off + j - min off c.toList.length = j := by omega
    rw [e]
    simp [List.getD, hj]
  refine ⟨by have := d.size; simp; omega, fun i hi => by rw [lo i (by omega)]; exact d.h i hi, fun i h1 h2 => ?_, by rw [hi' 72 (by omega)]; exact d.nx, ?_, by rw [hi' 74 (by omega)]; exact d.is⟩
  · by_cases g1 : i < off
    · rw [lo i g1]; exact d.x i h1 h2
    · by_cases g2 : i < off + bs.length
      · have := mid (i - off) (by omega)
        rw [show off + (i - off) = i by omega] at this
        refine ⟨_, hb _ ?_, this⟩
        simp [List.getD, show i - off < bs.length by omega]
      · rw [hi' i (by omega)]; exact d.x i h1 h2
  · obtain ⟨n, hn⟩ := d.len
    exact ⟨n, by rw [hi' 73 (by omega)]; exact hn⟩
theorem lay_73 {c : Array Value} {nx : Nat} (d : Dig c nx) {off : Nat} {bs : List Int} (h72 : off + bs.length ≤ 72) :
    (c.toList.take off ++ (bs.map (Value.int .u8) ++ c.toList.drop (off + (bs.map (Value.int .u8)).length))).toArray[73]? = c[73]? := by
  have hs : c.toList.length = 75 := by simpa using d.size
  rw [List.getElem?_toArray, List.getElem?_append_right (by rw [List.length_take]; omega), List.getElem?_append_right (by rw [List.length_take, List.length_map]; omega), List.getElem?_drop, List.length_take, List.length_map, ← Array.getElem?_toList]
  congr 1
  omega

theorem andNot_63 : ∀ n : Nat, n < 521 → bits .andNot .i64 (n : Int) 63 = ((n - n % 64 : Nat) : Int) := by decide +kernel
end Go.Proofs.YtaohcejbjeaemaaGreatDoor
namespace Go.Proofs.YtaohcejbjeaemaaGreatDoor
open Go Go.RowKit

theorem one_u8 : (Tryz.prog.info? 5).map (·.size) = some 1 := by kernel_rfl

/-- What Write leaves. -/
def WritePost (b : Nat) (nx' : Nat) (L' : Int) (w : World) (e : Ending) (w' : World) : Prop := (∃ v, e = .returned v) ∧ DigW w' b nx' L' ∧ Kept (fun k => k < w.heap.size ∧ k ≠ b) w w'

theorem lay_row {w : World} {b nx : Nat} {L : Int} {c : Array Value} (h1 : w.heap[b]? = some (.cells c 281 (0, 0))) (h2 : Dig c nx) (h3 : c[73]? = some (.int .u64 L)) {off : Nat} {bs : List Int} (h8 : 8 ≤ off) (h72 : off + bs.length ≤ 72) (hb : ∀ m ∈ bs, 0 ≤ m ∧ m ≤ 255) :
    DigW (w.setRow b (c.toList.take off ++ (bs.map (Value.int .u8) ++ c.toList.drop (off + (bs.map (Value.int .u8)).length))).toArray) b nx L ∧ Kept (fun k => k ≠ b) w (w.setRow b (c.toList.take off ++ (bs.map (Value.int .u8) ++ c.toList.drop (off + (bs.map (Value.int .u8)).length))).toArray) :=
  ⟨⟨_, setRow_heap w b _ _ _ _ h1, h2.lay h8 h72 hb, by rw [lay_73 h2 h72]; exact h3⟩, rfl, rfl, rfl, by simp [World.setRow], fun k hk => setRow_other w b k _ hk⟩

theorem src_of {w : World} {pb po : Nat} {bs : List Int} (hp : BytesAt w pb po bs) : ∀ (j : Nat) (v : Value), (bs.map (Value.int .u8))[j]? = some v → w.cell? (Addr.add ⟨pb, po, none⟩ j) = some v := fun j v hj => by
  have hlt : j < bs.length := by have := (List.getElem?_eq_some_iff.1 hj).1; simpa using this
  rw [Addr.add_lit, hp.1 j hlt]
  rw [List.getElem?_map] at hj
  simp [hlt] at hj
  simp [List.getD, hlt, hj]

/-- copy of bytes into a digest's block. -/
theorem wpList_copy_dig {P : Program} {w : World} {ops : Array Oper} {rest : List Oper} {o : Oper} {a : Act} {Q : Exit → Act → World → Prop} (hgd : o.guard = none) (d s : Operand) (dT sT : TypeId)
    (ho : o.op = .call { callee := .builtin .copy, args := #[d, s], argTypes := #[dT, sT] }) (elem : TypeId) (hu : P.underlying dT = some (.slice elem)) (hsz : (P.info? elem).map (·.size) = some 1)
    (b off dLen dCap pb po sLen sCap : Nat) (hd : a.eval d = .slice (some ⟨b, off, none⟩) dLen dCap) (hs : a.eval s = .slice (some ⟨pb, po, none⟩) sLen sCap) {nx : Nat} {L : Int} (hD : DigW w b nx L) {bs : List Int} (hB : BytesAt w pb po bs) (nl : Nat) (hnl : bs.length = nl)
    (hn : bs.length = Nat.min sLen dLen) (h8 : 8 ≤ off) (h72 : off + bs.length ≤ 72)
    (h : ∀ w', Hid (DigW w' b nx L) → Hid (Kept (fun k => k ≠ b) w w') → w'.cell? ⟨b, 72, none⟩ = some (.int .i64 nx) → (∀ i, w'.frozen? ⟨b, i, none⟩ = false) → wpList P ops Q rest (a.put o.dst (goInt nl)) w') : wpList P ops Q (o :: rest) a w := by
  subst hnl
  obtain ⟨c, g1, g2, g3⟩ := hD
  obtain ⟨r1, r2⟩ := lay_row g1 g2 g3 h8 h72 hB.2
  have hl : (bs.map (Value.int .u8)).length = bs.length := List.length_map _
  refine wpList_copy_own hgd d s dT sT ho elem hu hsz b off dLen dCap ⟨pb, po, none⟩ sLen sCap hd hs c 281 g1 (bs.map (Value.int .u8)) (hl.trans hn) (src_of hB) (by rw [hl, g2.size]; omega) (ints_oneCell _ _) ?_
  rw [hl]
  have := h _ r1 r2 r1.c72 r1.free
  rw [hl] at this
  exact this

set_option maxHeartbeats 4000000 in
set_option maxRecDepth 100000 in
theorem write_small {w : World} {b pb po k : Nat} {L : Int} {bs : List Int} (h : DigW w b 0 L) (hp : BytesAt w pb po bs) (hpb : pb ≠ b) (h0 : 0 < bs.length) (h64 : bs.length < 64) (_hk : bs.length ≤ k) (_hm : k ≤ maxLen) :
    Calls Tryz.prog 294 #[.pointer (some ⟨b, 0, none⟩), .slice (some ⟨pb, po, none⟩) bs.length k] w (WritePost b bs.length (IntKind.u64.wrap (L + bs.length)) w) := by
  unfold maxLen at _hm
  obtain ⟨n, hn⟩ : ∃ n, n = bs.length := ⟨_, rfl⟩
  have HN := Lib.hid hn
  rw [← hn] at h0 h64 _hk ⊢
  have c72 := h.c72
  have c73 := h.c73
  have hf := h.free
  have H1 := Lib.hid (h.setL (IntKind.u64.wrap (L + n)))
  have hk1 : Kept (fun k => k ≠ b) w (w.setCell ⟨b, 73, none⟩ (.int .u64 (IntKind.u64.wrap (L + n)))) := (Kept.refl _ w).setCell (fun h => h rfl) _
  have HP := Lib.hid (hp.kept hk1 hpb)
  have HK1 := Lib.hid hk1
  have HL := Lib.hid (show bs.length = Nat.min n 64 by rw [← hn, show Nat.min n 64 = min n 64 from rfl]; omega)
  clear h hp hn hk1
  go_enter Tryz.func294, Tryz.ntmps294
  go_wp2_with (with_reducible refine wpList_copy_dig rfl (.tmp 90) (.tmp 91) 25 25 rfl 5 Tryz.underlying25 one_u8 b 8 64 64 pb po n k rfl rfl H1.out HP.out n HN.out.symm HL.out (by decide) (by rw [← HN.out]; omega) ?_)
  intro w2 hD2 hk2 c72' hf'
  go_wp2_with fail
  go_ret2
  exact ⟨⟨_, rfl⟩, hD2.out.setN n, (HK1.out.trans (hk2.out.trans ((Kept.refl _ w2).setCell (fun h => h rfl) _))).mono fun k hk => hk.2⟩
end Go.Proofs.YtaohcejbjeaemaaGreatDoor

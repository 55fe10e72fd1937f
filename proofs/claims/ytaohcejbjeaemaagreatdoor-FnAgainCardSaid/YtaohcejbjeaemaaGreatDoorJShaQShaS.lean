import Derived.Test.YtaohcejbjeaemaaGreatDoorJShaP
import Derived.ArgAppend
import Derived.Laws.Externs
import Derived.Deep.RegionHeld3
namespace Go.Proofs.YtaohcejbjeaemaaGreatDoor
open Go Go.RowKit

set_option maxRecDepth 100000 in
theorem record_any (w : World) : Calls Tryz.prog 295 #[] w fun e w' => e = .returned (.tuple #[]) ∧ w = w' := by
  have hg : ∀ w : World, (callFunc 298 #[]).run Tryz.prog w = .ok (.value (.int .u8 0)) w := fun w =>
    run_callFunc_extern (e := fun _ => pure (.int .u8 0)) Tryz.func298 (by kernel_rfl) (by kernel_rfl) (by kernel_rfl) (by kernel_rfl) _ w
  have hs : ∀ (a : Array Value) (w : World), (callFunc 299 a).run Tryz.prog w = .ok (.value (.tuple #[])) w := fun a w =>
    run_callFunc_extern (e := Extern.CryptoHooks.nothing) Tryz.func299 (by kernel_rfl) (by kernel_rfl) (by kernel_rfl) (by kernel_rfl) _ w
  go_enter Tryz.func295, Tryz.ntmps295
  go_wp2_with fail
  go_end0
  exact ⟨rfl, rfl⟩

theorem setCells_kept (g : Nat) : ∀ (ys : List Value) (w : World) (o : Nat), Kept (fun k => k ≠ g) w (w.setCells g o ys)
  | [], _, _ => Kept.refl _ _
  | y :: ys, w, o => ((Kept.refl _ w).setCell (p := ⟨g, o, none⟩) (fun h => h rfl) y).trans (setCells_kept g ys _ (o + 1))
theorem ByteBlk.setCells {g N : Nat} {t : TypeId} : ∀ (ys : List Value) (w : World) (o : Nat), ByteBlk w g N t → (∀ v ∈ ys, ∃ y : Int, (0 ≤ y ∧ y ≤ 255) ∧ v = .int .u8 y) → ByteBlk (w.setCells g o ys) g N t
  | [], _, _, h, _ => h
  | v :: ys, w, o, h, hy => by
    obtain ⟨y, h1, rfl⟩ := hy v (by simp)
    exact ByteBlk.setCells ys _ (o + 1) (h.set o h1) (fun z hz => hy z (by simp [hz]))

/-- append of a block of bytes to a slice of none of them that has room in a block of bytes. -/
theorem wpList_append_into {P : Program} {w : World} {ops : Array Oper} {rest : List Oper} {o : Oper} {a : Act} {Q : Exit → Act → World → Prop} (hgd : o.guard = none) (s x : Operand) (t : TypeId)
    (ho : o.op = .call { callee := .builtin .append, args := #[s, x], argTypes := #[t, t] }) (e : TypeId) (i : TypeInfo) (ht : P.underlying t = some (.slice e)) (hi : P.info? e = some i) (hsize : i.size = 1)
    (g N : Nat) (T : TypeId) (hs : a.eval s = .slice (some ⟨g, 0, none⟩) 0 N) (hB : ByteBlk w g N T) (b : Nat) (T' : TypeId) (hx : a.eval x = .slice (some ⟨b, 0, none⟩) N N) (hB' : ByteBlk w b N T')
    (h : ∀ w', Hid (ByteBlk w' g N T) → Hid (Kept (fun k => k ≠ g) w w') → wpList P ops Q rest (a.put o.dst (.slice (some ⟨g, 0, none⟩) N N)) w') : wpList P ops Q (o :: rest) a w := by
  obtain ⟨c, c1, c2, c3⟩ := hB'
  obtain ⟨d, d1, d2, d3⟩ := hB
  refine wpList_plain hgd fun K hK => ?_
  have hrun := run_append_room_cells (P := P) w t o.type e i ht hi g 0 0 N ⟨b, 0, none⟩ N N c.toList (by rw [hsize]; simp [c2]) (fun j u hj => by
      rw [Addr.add_lit, Nat.zero_add, cell_at c1, ← Array.getElem?_toList]; exact hj) (u8_cells c2 c3) (by omega)
    (fun j hj => by
      have hj' : j < N := by simpa [c2] using hj
      obtain ⟨y, _, hy⟩ := d3 j hj'
      rw [show 0 + 0 * i.size + j = j by omega, cell_at d1, hy]; rfl)
    (fun j hj => free_at d1 _)
  have hw := h (w.setCells g (0 + 0 * i.size) c.toList) (ByteBlk.setCells _ _ _ ⟨d, d1, d2, d3⟩ (fun v hv => by
      obtain ⟨j, hj, rfl⟩ := List.getElem_of_mem hv
      have hj' : j < N := by simpa [c2] using hj
      obtain ⟨y, h1, h2⟩ := c3 j hj'
      refine ⟨y, h1, ?_⟩
      rw [Array.getElem?_eq_getElem (by omega)] at h2
      simpa using h2)) (setCells_kept _ _ _ _)
  rw [Nat.zero_add] at hrun
  unfold Oper.wp
  simp only [execOp, ho, resolve, invoke, builtin]
  simp [hs, hx, hrun, Result.andThen]
  exact hK _ _ (by simpa using hw)
end Go.Proofs.YtaohcejbjeaemaaGreatDoor
namespace Go.Proofs.YtaohcejbjeaemaaGreatDoor
open Go Go.RowKit

theorem Dig.one {c : Array Value} {nx : Nat} (d : Dig c nx) : ∀ v ∈ c.toList, v.oneCell' = true := by
  intro v hv
  obtain ⟨i, hi, rfl⟩ := List.getElem_of_mem hv
  have hi' : i < c.size := by simpa using hi
  have hs := d.size
  have key : ∀ u, c[i]? = some u → c.toList[i] = u := fun u hu => by
    rw [Array.getElem?_eq_getElem hi'] at hu
    simpa using hu
  by_cases h1 : i < 8
  · obtain ⟨n, hn⟩ := d.h i h1
    rw [key _ hn]; rfl
  · by_cases h2 : i < 72
    · obtain ⟨n, _, hn⟩ := d.x i (by omega) h2
      rw [key _ hn]; rfl
    · have h3 : i = 72 ∨ i = 73 ∨ i = 74 := by omega
      rcases h3 with rfl | rfl | rfl
      · rw [key _ d.nx]; rfl
      · obtain ⟨n, hn⟩ := d.len
        rw [key _ hn]; rfl
      · rw [key _ d.is]; rfl

set_option maxHeartbeats 4000000 in
set_option maxRecDepth 100000 in
theorem sum_any {w : World} {b l nx s : Nat} (h : DigW w b nx (l : Int)) (hl : l ≤ 520) (hnx : nx = l % 64) (hs : ByteBlk w s 32 53) (ht : TableAt w) :
    Calls Tryz.prog 293 #[.pointer (some ⟨b, 0, none⟩), .slice (some ⟨s, 0, none⟩) 0 32] w fun e w' => (∃ v, e = .returned v) ∧ ByteBlk w' s 32 53 ∧ Kept (fun k => k < w.heap.size ∧ k ≠ s) w w' := by
  obtain ⟨c, h1, h2, h3⟩ := h
  have hlt := lt_of_block h1
  have hsl := hs.lt
  have htl : 3 < w.heap.size := by obtain ⟨y, hy⟩ := ht 0 (by decide); exact World.block_lt_of_cell? _ _ hy
  obtain ⟨i0, hi0, hz0, hz1, hz2⟩ := info_parts info_u8
  have HU := Lib.hid Tryz.underlying281
  have HI := Lib.hid (show (Tryz.prog.info? 281).map (·.size) = some c.size by rw [h2.size]; kernel_rfl)
  have HC := Lib.hid h1
  have HD := Lib.hid h2
  have HL := Lib.hid h3
  have HS := Lib.hid hs
  have HT := Lib.hid ht
  have HO := Lib.hid h2.one
  have HZ := Lib.hid (show c.size = (Tryz.zeroCells281).size by rw [h2.size]; kernel_rfl)
  clear h1 h2 h3 hs ht
  go_enter Tryz.func293, Tryz.ntmps293
  go_wp2_with (first
    | (go_at_call 295; refine (record_any _).mono ?_; rintro e w' ⟨rfl, rfl⟩)
    | (with_reducible refine wpList_load_row rfl 281 (.tmp 9) rfl b rfl 281 c (0, 0) _ HC.out HU.out rfl HI.out ?_)
    | (with_reducible refine wpList_store_row rfl 281 (.tmp 5) (.tmp 10) rfl w.heap.size Tryz.zeroCells281 c 281 rfl rfl (block_new _ _) HZ.out HI.out HO.out ?_))
  intro w2 hb2 hk2
  have hk02 : Kept (fun k => k < w.heap.size) w w2 := ((Kept.refl _ w).alloc (fun _ h => h) _).trans (hk2.out.mono fun k hk => Nat.ne_of_lt hk)
  have hd2 : DigW w2 w.heap.size nx (l : Int) := ⟨c, hb2.out, HD.out, HL.out⟩
  have ht2 : TableAt w2 := fun i hi => by
    obtain ⟨y, hy⟩ := HT.out i hi
    exact ⟨y, (hk02.cell (p := ⟨3, i, none⟩) htl).trans hy⟩
  have HK2 := Lib.hid hk02
  have HD2 := Lib.hid hd2
  have HCS := Lib.hid (checkSum_any hd2 hl hnx ht2 (Nat.ne_of_lt htl))
  have hs2 : w.heap.size < w2.heap.size := hd2.lt
  clear hb2 hk2 hk02 hd2 ht2 hnx
  go_wp2_with fail
  refine HCS.out.mono ?_
  rintro e w3 ⟨d, rfl, d1, d2, hk3, c74⟩
  have HK3 := Lib.hid hk3
  have hs3 := hk3.size
  have hN1 := d1
  have HN1 := Lib.hid d1
  have HN2 := Lib.hid d2
  have HV := Lib.hid (u8_cells d1 d2)
  have hu32 := Tryz.underlying53
  have hi32 : (Tryz.prog.info? 53).map (·.size) = some d.size := by rw [d1]; kernel_rfl
  have HU32 := Lib.hid hu32
  have HI32 := Lib.hid hi32
  have hz32 : d.size = (#[Value.int .u8 0, Value.int .u8 0, Value.int .u8 0, Value.int .u8 0, Value.int .u8 0, Value.int .u8 0, Value.int .u8 0, Value.int .u8 0, Value.int .u8 0, Value.int .u8 0, Value.int .u8 0, Value.int .u8 0, Value.int .u8 0, Value.int .u8 0, Value.int .u8 0, Value.int .u8 0, Value.int .u8 0, Value.int .u8 0, Value.int .u8 0, Value.int .u8 0, Value.int .u8 0, Value.int .u8 0, Value.int .u8 0, Value.int .u8 0, Value.int .u8 0, Value.int .u8 0, Value.int .u8 0, Value.int .u8 0, Value.int .u8 0, Value.int .u8 0, Value.int .u8 0, Value.int .u8 0] : Array Value).size := by rw [d1]; rfl
  have HZ32 := Lib.hid hz32
  clear hk3 d1 d2 hN1 hu32 hi32 hz32
  go_wp2_with (with_reducible refine wpList_store_row rfl 53 (.tmp 6) (.tmp 11) rfl w3.heap.size #[Value.int .u8 0, Value.int .u8 0, Value.int .u8 0, Value.int .u8 0, Value.int .u8 0, Value.int .u8 0, Value.int .u8 0, Value.int .u8 0, Value.int .u8 0, Value.int .u8 0, Value.int .u8 0, Value.int .u8 0, Value.int .u8 0, Value.int .u8 0, Value.int .u8 0, Value.int .u8 0, Value.int .u8 0, Value.int .u8 0, Value.int .u8 0, Value.int .u8 0, Value.int .u8 0, Value.int .u8 0, Value.int .u8 0, Value.int .u8 0, Value.int .u8 0, Value.int .u8 0, Value.int .u8 0, Value.int .u8 0, Value.int .u8 0, Value.int .u8 0, Value.int .u8 0, Value.int .u8 0] d 53 rfl rfl (block_new _ _) HZ32.out HI32.out HV.out ?_)
  intro w5 hb5 hk5
  have hd5 : ByteBlk w5 w3.heap.size 32 53 := ⟨d, hb5.out, HN1.out, HN2.out⟩
  have hk35 : Kept (fun k => k < w3.heap.size) w3 w5 := ((Kept.refl _ w3).alloc (fun _ h => h) _).trans (hk5.out.mono fun k hk => Nat.ne_of_lt hk)
  have hk05 : Kept (fun k => k < w.heap.size) w w5 := HK2.out.trans ((HK3.out.mono fun k hk => ⟨by omega, by omega⟩).trans (hk35.mono fun k hk => by omega))
  have hS5 : ByteBlk w5 s 32 53 := HS.out.kept (hk05.block s hsl)
  have c74' : w5.cell? ⟨w.heap.size, 74, none⟩ = some (.bool false) := (hk35.cell (p := ⟨w.heap.size, 74, none⟩) (Nat.lt_of_lt_of_le hs2 hs3)).trans c74
  have HD5 := Lib.hid hd5
  have HS5 := Lib.hid hS5
  have HK5 := Lib.hid hk05
  clear hb5 hk5 hd5 hk35 hk05 hS5 c74
  go_wp2_with (with_reducible refine wpList_append_into rfl (.tmp 17) (.tmp 18) 25 rfl 5 i0 Tryz.underlying25 hi0 hz1 s 32 53 rfl HS5.out w3.heap.size 53 rfl HD5.out ?_)
  intro w6 hB6 hk6
  go_wp2_with fail
  go_ret
  exact ⟨⟨_, rfl⟩, hB6.out, (HK5.out.mono fun k hk => hk.1).trans (hk6.out.mono fun k hk => hk.2)⟩
end Go.Proofs.YtaohcejbjeaemaaGreatDoor
namespace Go.Proofs.YtaohcejbjeaemaaGreatDoor
open Go Go.RowKit

theorem DigW.of_at {w : World} {b nx : Nat} {L : Int} (h : DigAt w b nx) (h73 : w.cell? ⟨b, 73, none⟩ = some (.int .u64 L)) : DigW w b nx L := by
  obtain ⟨c, h1, h2⟩ := h
  rw [cell_at h1] at h73
  exact ⟨c, h1, h2, h73⟩

/-- The first Write into a digest, whatever the bytes. -/
theorem write_data {M : Nat → Prop} {w : World} {b : Nat} {x : Value} {bs : List Int} (h : DigW w b 0 0) (hx : Elem M w x bs) (hM : ∀ k, M k → k < w.heap.size ∧ k ≠ b) (hl : bs.length ≤ 520) (ht : TableAt w) (htb : 3 ≠ b) :
    Calls Tryz.prog 294 #[.pointer (some ⟨b, 0, none⟩), x] w (WritePost b (bs.length % 64) (bs.length : Int) w) := by
  obtain ⟨p, c, rfl, h1, h2, h3, h4, h5⟩ := hx
  by_cases h0 : bs.length = 0
  · rw [h0]
    exact write_zero h
  · obtain ⟨g, o, rfl, hMg, hc⟩ := h5 (by omega)
    have hb : BytesAt w g o bs := ⟨hc, h4⟩
    have hn := hM g hMg
    have e : IntKind.u64.wrap (0 + (bs.length : Int)) = bs.length := by rw [IntKind.wrap_u64]; omega
    by_cases h64 : bs.length < 64
    · have := write_small h hb hn.2 (by omega) h64 h1 h2
      rw [e] at this
      rw [Nat.mod_eq_of_lt h64]
      exact this
    · have := write_many h hb hn.2 hn.1 (by omega) hl h1 h2 ht htb
      rw [e] at this
      exact this

set_option maxHeartbeats 4000000 in
set_option maxRecDepth 100000 in
theorem sum256_any {M : Nat → Prop} {w : World} {x : Value} {bs : List Int} (hx : Elem M w x bs) (hM : ∀ k, M k → k < w.heap.size) (hl : bs.length ≤ 520) (ht : TableAt w) :
    Calls Tryz.prog 72 #[x] w fun e w' => ∃ c : Array Value, e = .returned (.agg c) ∧ c.size = 32 ∧ (∀ i, i < 32 → ∃ y : Int, (0 ≤ y ∧ y ≤ 255) ∧ c[i]? = some (.int .u8 y)) ∧ Below w.heap.size w w' := by
  have htl : 3 < w.heap.size := by obtain ⟨y, hy⟩ := ht 0 (by decide); exact World.block_lt_of_cell? _ _ hy
  obtain ⟨p, k, rfl, h1⟩ := hx
  have hx : Elem M w (.slice p bs.length k) bs := ⟨p, k, rfl, h1⟩
  obtain ⟨n, hn⟩ : ∃ n, n = bs.length := ⟨_, rfl⟩
  rw [← hn] at hx hl ⊢
  have HN := Lib.hid hn
  have HX := Lib.hid hx
  have HT := Lib.hid ht
  have HM := Lib.hid hM
  have hal2 : Tryz.prog.arrayLen 53 = 32 := by kernel_rfl
  have hmw : ∀ (x : Option Addr) (w : World), Sem.run Tryz.prog (method 464 223 (.pointer x) "Write") w = .ok (294, .pointer x) w := fun x w => by kernel_rfl
  have hms : ∀ (x : Option Addr) (w : World), Sem.run Tryz.prog (method 464 223 (.pointer x) "Sum") w = .ok (293, .pointer x) w := fun x w => by kernel_rfl
  have hna : ∀ (x : Addr) (w : World), Sem.run Tryz.prog (nilAhead 464 223 (.pointer (some x)) "Sum") w = .ok (some false) w := fun x w => by kernel_rfl
  clear hx ht hM h1 hn
  go_enter Tryz.func72, Tryz.ntmps72
  go_wp2_with fail
  generalize hw1 : World.alloc w _ = w1
  have R1 : ByteBlk w1 w.heap.size 32 53 := by rw [← hw1]; exact ByteBlk.zero (block_new _ _) (by kernel_rfl)
  have K1 : Kept (fun k => k < w.heap.size) w w1 := by rw [← hw1]; exact (Kept.refl _ _).alloc (fun _ h => h) _
  have HR1 := Lib.hid R1
  have HK1 := Lib.hid K1
  have hs1 : w.heap.size < w1.heap.size := R1.lt
  clear R1 K1 hw1
  refine (newHash_any w1).mono ?_
  rintro e w2 ⟨rfl, hd2, h73, hb2⟩
  have hd2' := DigW.of_at hd2 h73
  have hK2 : Kept (fun k => k < w.heap.size) w w2 := HK1.out.trans ((kept_of_below hb2).mono fun k hk => by omega)
  have hx2 := HX.out.kept (hK2.mono HM.out)
  have ht2 : TableAt w2 := fun i hi => by
    obtain ⟨y, hy⟩ := HT.out i hi
    exact ⟨y, (hK2.cell (p := ⟨3, i, none⟩) htl).trans hy⟩
  have hs2 := hb2.size
  have HWR := Lib.hid (write_data hd2' hx2 (fun k hk => by have := HM.out k hk; omega) (by rw [← HN.out]; exact hl) ht2 (by omega))
  have HR2 := Lib.hid (HR1.out.kept (hb2.block _ hs1))
  have HT2 := Lib.hid ht2
  have HK2 := Lib.hid hK2
  clear hd2 h73 hd2' hx2 ht2 hK2 hb2 HR1
  go_wp2_with fail
  refine HWR.out.mono ?_
  rintro e w3 ⟨⟨v, rfl⟩, hd3, hk3⟩
  rw [← HN.out] at hd3
  have hs3 := hk3.size
  have HR3 := Lib.hid (HR2.out.kept (hk3.block _ ⟨by omega, by omega⟩))
  have hK3 : Kept (fun k => k < w.heap.size) w w3 := HK2.out.trans (hk3.mono fun k hk => by omega)
  have ht3 : TableAt w3 := fun i hi => by
    obtain ⟨y, hy⟩ := HT.out i hi
    exact ⟨y, (hK3.cell (p := ⟨3, i, none⟩) htl).trans hy⟩
  have HT3 := Lib.hid ht3
  have HK3 := Lib.hid hK3
  have HD3 := Lib.hid hd3
  clear hk3 ht3 hK3 hd3 HWR HR2 HT2 HK2
  go_wp2_with fail
  generalize hw4 : World.alloc w3 _ = w4
  have S4 : ByteBlk w4 w3.heap.size 32 53 := by rw [← hw4]; exact ByteBlk.zero (block_new _ _) (by kernel_rfl)
  have K4 : Kept (fun k => k < w3.heap.size) w3 w4 := by rw [← hw4]; exact (Kept.refl _ _).alloc (fun _ h => h) _
  have hd4 : DigW w4 w1.heap.size (n % 64) (n : Int) := HD3.out.kept (K4.block _ HD3.out.lt)
  have hk04 : Kept (fun k => k < w.heap.size) w w4 := HK3.out.trans (K4.mono fun k hk => by omega)
  have ht4 : TableAt w4 := fun i hi => by
    obtain ⟨y, hy⟩ := HT.out i hi
    exact ⟨y, (hk04.cell (p := ⟨3, i, none⟩) htl).trans hy⟩
  have HSUM := Lib.hid (fun wx (hx : wx.heap = w4.heap) => sum_any (w := wx) (b := w1.heap.size) (l := n) (nx := n % 64) (s := w3.heap.size) (hd4.kept (by rw [hx])) hl rfl (S4.kept (by rw [hx])) (fun i hi => by obtain ⟨y, hy⟩ := ht4 i hi; exact ⟨y, by rw [← hy]; unfold World.cell?; rw [hx]⟩))
  have HK4 := Lib.hid hk04
  have HR4 := Lib.hid (HR3.out.kept (K4.block _ (by omega)))
  have hs4 : w3.heap.size < w4.heap.size := S4.lt
  clear hw4 S4 K4 hd4 hk04 ht4 HD3 HR3 HK3 HT3
  go_region_held3 (fun _ => True) (trivial) ((go_at_call 293; refine (HSUM.out (World.drew w4) rfl).mono ?_; rintro e w5 ⟨⟨v5, rfl⟩, hB5, hk5⟩; have HB5 := Lib.hid hB5; have HK5 := Lib.hid hk5; clear hB5 hk5))
  obtain ⟨c, b1, b2, b3⟩ := HB5.out
  have hR5 : ByteBlk w5 w.heap.size 32 53 := HR4.out.kept (HK5.out.block _ ⟨by show w.heap.size < w4.heap.size; omega, by omega⟩)
  obtain ⟨c', r1, r2, _⟩ := hR5
  have hk05 : Kept (fun k => k < w.heap.size) w w5 := HK4.out.trans ((Kept.refl _ w4).drew.trans (HK5.out.mono fun k hk => ⟨by show k < w4.heap.size; omega, by omega⟩))
  have hsz : c.size = c'.size := by rw [b2, r2]
  have hi : (Tryz.prog.info? 53).map (·.size) = some c.size := by rw [b2]; kernel_rfl
  have HU := Lib.hid Tryz.underlying53
  have HI := Lib.hid hi
  have HC5 := Lib.hid b1
  have HN5 := Lib.hid b2
  have HY5 := Lib.hid b3
  have HCR := Lib.hid r1
  have HS5 := Lib.hid hsz
  have HV := Lib.hid (u8_cells b2 b3)
  have HK05 := Lib.hid hk05
  clear b1 b2 b3 r1 r2 hsz hi hk05 HB5 HK5 HR4 HK4 hal2
  go_wp2_with (first | (with_reducible refine wpList_load_row rfl 53 (.tmp 4) rfl w3.heap.size rfl 53 c (0, 0) _ HC5.out HU.out rfl HI.out ?_) | (with_reducible refine wpList_store_row rfl 53 (.tmp 2) (.tmp 17) rfl w.heap.size c' c 53 rfl rfl HCR.out HS5.out HI.out HV.out ?_))
  intro w9 hg9 hk9
  go_wp2_with fail
  refine bodyPost_ret (v := .agg c) (results_cell_row Tryz.results72 _ _ w.heap.size 53 c (0, 0) _ rfl hg9.out HU.out rfl HI.out) rfl ?_
  exact ⟨c, rfl, HN5.out, HY5.out, Kept.below (HK05.out.trans (hk9.out.mono fun k hk => Nat.ne_of_lt hk))⟩
end Go.Proofs.YtaohcejbjeaemaaGreatDoor

import Derived.Test.YtaohcejbjeaemaaGreatDoorJHandBHandC
import Derived.Laws.BytesArg
namespace Go.Proofs.YtaohcejbjeaemaaGreatDoor
open Go Go.RowKit

theorem and_len (n : Int) (h0 : 0 ≤ n) (h1 : n ≤ 520) : bits .and .i64 n 255 = n % 256 ∧ bits .and .i64 (n / 256) 255 = n / 256 ∧ bits .and .u8 (n / 256) 128 = 0 ∧ (128 ≤ n → n ≤ 255 → bits .and .u8 n 128 = 128) := by
  have hh : ∀ k : Fin 521, bits .and .i64 ((k.val : Nat) : Int) 255 = ((k.val : Nat) : Int) % 256 ∧ bits .and .i64 (((k.val : Nat) : Int) / 256) 255 = ((k.val : Nat) : Int) / 256 ∧ bits .and .u8 (((k.val : Nat) : Int) / 256) 128 = 0 ∧ (128 ≤ k.val → k.val ≤ 255 → bits .and .u8 ((k.val : Nat) : Int) 128 = 128) := by decide +kernel
  obtain ⟨m, rfl⟩ : ∃ m : Nat, n = m := ⟨n.toNat, by omega⟩
  have := hh ⟨m, by omega⟩
  exact ⟨this.1, this.2.1, this.2.2.1, fun a b => this.2.2.2 (by show 128 ≤ m; omega) (by show m ≤ 255; omega)⟩

theorem made9 (w : World) : (Instr.makeSlice 25 (.int .i64 0) (.int .i64 9)).run Tryz.prog w = .ok (.slice (some ⟨w.heap.size, 0, none⟩) 0 9) (w.alloc (.cells #[.int .u8 0, .int .u8 0, .int .u8 0, .int .u8 0, .int .u8 0, .int .u8 0, .int .u8 0, .int .u8 0, .int .u8 0] 5)) := by kernel_rfl

theorem bytes_none (w : World) : Calls Tryz.prog 199 #[.int .i64 0] w (Copy [] w) := by
  go_enter Tryz.func199, Tryz.ntmps199
  go_wp2
  go_ret
  exact ⟨_, rfl, Below.refl _ _, Elem.nil _ _⟩

set_option maxHeartbeats 1000000 in
set_option maxRecDepth 100000 in
theorem bytes_high (n : Int) (h1 : 128 ≤ n) (h2 : n ≤ 255) (w : World) :
    Calls Tryz.prog 199 #[.int .i64 n] w (Copy [n, 0] w) := by
  have h0 : (n == 0) = false := by simp; omega
  have hsh : n / 256 = 0 := by omega
  obtain ⟨ha, _, _, hb⟩ := and_len n (by omega) (by omega)
  have hb : bits .and .u8 (n % 256) 128 = 128 := by rw [show n % 256 = n by omega]; exact hb h1 h2
  have hmk := made9
  go_enter Tryz.func199, Tryz.ntmps199
  go_wp2_with fail
  refine wp_loop_rounds 2 ?_
  rw [rounds_succ]
  go_wp2_with fail
  rw [rounds_succ]
  go_wp2_with fail
  go_ret
  refine ⟨_, rfl, (((Below.refl _ _).alloc (Nat.le_refl _) _).alloc (by simp) _).alloc (by simp; omega) _, ⟨_, 9, rfl, by simp, by simp [maxLen], by simp, by simp; omega, fun _ => ⟨w.heap.size, 0, rfl, ⟨Nat.le_refl _, by simp; omega⟩, ?_⟩⟩⟩
  intro i hi
  rw [cell_at (block_alloc (block_alloc (block_new _ _) _) _)]
  match i, hi with
  | 0, _ => simp; omega
  | 1, _ => rfl

set_option maxHeartbeats 1000000 in
set_option maxRecDepth 100000 in
theorem bytes_two (n : Int) (h1 : 256 ≤ n) (h2 : n ≤ 520) (w : World) :
    Calls Tryz.prog 199 #[.int .i64 n] w (Copy [n % 256, n / 256] w) := by
  have h0 : (n == 0) = false := by simp; omega
  have q0 : 0 < n / 256 := by omega
  have hsh : n / 256 / 256 = 0 := by omega
  obtain ⟨ha, hc, hb, _⟩ := and_len n (by omega) (by omega)
  have hmk := made9
  go_enter Tryz.func199, Tryz.ntmps199
  go_wp2_with fail
  refine wp_loop_rounds 3 ?_
  rw [rounds_succ]
  go_wp2_with fail
  rw [rounds_succ]
  go_wp2_with fail
  rw [rounds_succ]
  go_wp2_with fail
  go_ret
  refine ⟨_, rfl, (((Below.refl _ _).alloc (Nat.le_refl _) _).alloc (by simp) _).alloc (by simp; omega) _, ⟨_, 9, rfl, by simp, by simp [maxLen], by simp, by simp; omega, fun _ => ⟨w.heap.size, 0, rfl, ⟨Nat.le_refl _, by simp; omega⟩, ?_⟩⟩⟩
  intro i hi
  rw [cell_at (block_alloc (block_alloc (block_new _ _) _) _)]
  match i, hi with
  | 0, _ => rfl
  | 1, _ => rfl

/-- The bytes of a length up to 520, whatever they are. -/
theorem bytes_len (n : Int) (h0 : 0 ≤ n) (h1 : n ≤ 520) : ∃ bs : List Int, bs.length ≤ 520 ∧ ∀ w, Calls Tryz.prog 199 #[.int .i64 n] w (Copy bs w) := by
  by_cases q0 : n = 0
  · subst q0
    exact ⟨[], by simp, bytes_none⟩
  by_cases q1 : n ≤ 127
  · have hh : ∀ k : Fin 128, bits .and .i64 ((k.val : Nat) : Int) 255 = (k.val : Nat) ∧ bits .and .u8 ((k.val : Nat) : Int) 128 = 0 := by decide +kernel
    obtain ⟨m, rfl⟩ : ∃ m : Nat, n = m := ⟨n.toNat, by omega⟩
    have := hh ⟨m, by omega⟩
    exact ⟨[(m : Int)], by simp, fun w => bytes_small _ (by omega) q1 this.1 this.2 w⟩
  by_cases q2 : n ≤ 255
  · exact ⟨[n, 0], by simp, fun w => bytes_high n (by omega) q2 w⟩
  · exact ⟨[n % 256, n / 256], by simp, fun w => bytes_two n (by omega) h1 w⟩

set_option maxHeartbeats 400000 in
set_option maxRecDepth 100000 in
theorem pushInt_of {M : Nat → Prop} {b o : Nat} {T : TypeId} {c : Array Value} {w : World} {dv : Value} {D : List Value} (h : StkIn M b o T c w dv D) (hD : D.length ≤ 1000000) {bs : List Int} (i : Int) (hB : Calls Tryz.prog 199 #[.int .i64 i] w (Copy bs w)) :
    Calls Tryz.prog 160 #[.pointer (some ⟨b, o, none⟩), .int .i64 i] w fun e w' => e = .returned (.tuple #[]) ∧
      ∃ v w1, Below w.heap.size w w1 ∧ Elem (NewIn w w1) w1 v bs ∧ StkPost (fun k => M k ∨ NewIn w w1 k) b o T c w1 w' (D ++ [v]) := by
  have H := Lib.hid h
  have HBy := Lib.hid hB
  clear h hB
  go_enter Tryz.func160, Tryz.ntmps160
  go_wp2_with fail
  refine HBy.out.mono ?_
  rintro e w1 ⟨v, rfl, hb, he⟩
  have HE := Lib.hid he
  have hI : StkIn (fun k => M k ∨ NewIn w w1 k) b o T c w1 dv D := by
    have hbl := lt_of_block H.out.blk
    refine ⟨?_, (hb.block b hbl).trans H.out.blk, H.out.cell, H.out.row.of_block (fun g hg => hb.block g (H.out.row.lt g hg)), H.out.nb, ?_, ?_⟩
    · rintro k (hk | hk)
      · exact Nat.lt_of_lt_of_le (H.out.lt k hk) hb.size
      · exact hk.2
    · rintro k hk (hk' | hk')
      · exact H.out.nM k hk hk'
      · have := H.out.row.lt k hk; unfold NewIn at hk'; omega
    · rintro (hk' | hk')
      · exact H.out.nMb hk'
      · unfold NewIn at hk'; omega
  obtain ⟨p, cc, rfl, _⟩ := he
  have HI := Lib.hid hI
  have HB := Lib.hid hb
  clear hI hb
  go_wp2_with fail
  refine (push_any HI.out _ _ _ hD).mono ?_
  rintro e w' ⟨rfl, hq⟩
  have HQ := Lib.hid hq
  clear hq
  go_wp2_with fail
  go_end0
  exact ⟨rfl, _, _, HB.out, HE.out, HQ.out⟩

set_option maxHeartbeats 1000000 in
set_option maxRecDepth 100000 in
theorem h_size {K : EngK} {V : EngW} {E A : List (List Int)} {a : List Int} {w : World} (h : EngA K V (E ++ [a]) A w) (hl : E.length ≤ 10000) (ha : a.length ≤ 520) (p : Addr) (dat : Value) :
    Calls Tryz.prog 117 #[.pointer (some p), dat, .pointer (some ⟨K.e, 0, none⟩)] w fun e w' => ∃ bs : List Int, HandPostA K V (E ++ [a, bs]) A w e w' := by
  obtain ⟨bs, _, hB⟩ := bytes_len a.length (by omega) (by omega)
  obtain ⟨D, hD, hE⟩ := h.row
  have hlD : D.length ≤ 1000000 := by rw [hE.length]; simp; omega
  have hE' := hE
  obtain ⟨D0, x, rfl, hE0, e1⟩ := hE'.last
  obtain ⟨p1, k1, rfl, _⟩ := e1
  have hl' : D0.length + 0 ≤ 100000 := by rw [hE0.length]; omega
  have HS := Lib.hid (h.stkIn hD)
  have H := Lib.hid h
  have HE := Lib.hid hE
  have HB := Lib.hid hB
  clear h hD hE hE0 hB hE'
  go_enter Tryz.func117, Tryz.ntmps117
  go_wp2_with fail
  refine (peek_at (o := 23) D0 [] HS.out hl' _ rfl).mono ?_
  rintro e w1 ⟨rfl, rfl⟩
  go_wp2_with fail
  refine (pushInt_of (o := 23) HS.out hlD _ (HB.out _)).mono ?_
  rintro e w2 ⟨rfl, v, w1, hb, hx, hp⟩
  have hk := hp.choose_spec.2.2.2.2
  have hk1 : Kept (LiveA K V w) w w1 := (kept_of_below hb).mono fun k hk => hk.1
  have HP := Lib.hid (H.out.post (E' := E ++ [a, bs]) hb hp (Elems.cast (.snoc ((HE.out.kept hk1 (fun k h => (.inl h : LiveA K V w k ∨ NewIn w w1 k))).kept (hk.mono fun _ h => h.imp_left LiveA.s) (fun _ h => h)) ((hx.mono (fun k h => (.inr h : LiveA K V w k ∨ NewIn w w1 k))).kept (hk.mono fun _ h => h.imp_left LiveA.s))) rfl (by simp)))
  clear hx hp hk hb hk1
  go_wp2_with fail
  go_ret
  exact ⟨bs, HandPostA.of HP.out⟩
end Go.Proofs.YtaohcejbjeaemaaGreatDoor
namespace Go.Proofs.YtaohcejbjeaemaaGreatDoor
open Go Go.RowKit

/-- Bytes as a string, as the model turns them. -/
theorem conv_any {M : Nat → Prop} {w : World} {x : Value} {bs : List Int} (hx : Elem M w x bs) : (convert 25 9 x).run Tryz.prog w = .ok (.string (strOfNums bs)) w := by
  obtain ⟨p, c, rfl, h1, h2, h3, h4, h5⟩ := hx
  by_cases h0 : bs = []
  · subst h0
    cases p with
    | none => exact run_convert_bytes_nil w _ _ Tryz.underlying25 Tryz.underlying5 _ _ _ Tryz.underlying9
    | some ad =>
      rw [run_convert_bytes_string w _ _ _ _ _ _ Tryz.underlying25 Tryz.underlying5 Tryz.underlying9]
      have hl : (loadCells ad 0).run Tryz.prog w = .ok (([] : List Int).map (Value.int .u8)).toArray w := by simpa using run_loadCells_list (P := Tryz.prog) w ad [] (by simp)
      exact run_bytesToString w ad _ c [] hl
  · obtain ⟨b, o, rfl, _, hc⟩ := h5 (List.length_pos_iff.2 h0)
    exact run_convert_bytes_arg w _ _ Tryz.underlying25 Tryz.underlying5 b o _ c bs rfl hc _ Tryz.underlying9

theorem equal_same {M M' : Nat → Prop} {w : World} {x y : Value} {bs : List Int} (hx : Elem M w x bs) (hy : Elem M' w y bs) :
    Calls Tryz.prog 59 #[x, y] w fun e w' => e = .returned (.bool true) ∧ w = w' := by
  have c1 := conv_any hx
  have c2 := conv_any hy
  obtain ⟨p, c, rfl, _⟩ := hx
  obtain ⟨p', c', rfl, _⟩ := hy
  go_enter Tryz.func59, Tryz.ntmps59
  go_wp2
  go_ret
  exact ⟨by simp, rfl⟩

theorem fromTrue (w : World) : Calls Tryz.prog 201 #[.bool true] w (Copy [1] w) := by
  go_enter Tryz.func201, Tryz.ntmps201
  go_wp2
  go_ret
  refine ⟨_, rfl, (Below.refl _ _).alloc (Nat.le_refl _) _, ⟨_, 1, rfl, by simp, by simp [maxLen], by simp, by simp, fun _ => ⟨w.heap.size, 0, rfl, ⟨Nat.le_refl _, by simp⟩, ?_⟩⟩⟩
  intro i hi
  rw [cell_at (block_new _ _)]
  match i, hi with
  | 0, _ => rfl

set_option maxHeartbeats 400000 in
set_option maxRecDepth 100000 in
theorem pushTrue {M : Nat → Prop} {b o : Nat} {T : TypeId} {c : Array Value} {w : World} {dv : Value} {D : List Value} (h : StkIn M b o T c w dv D) (hD : D.length ≤ 1000000) :
    Calls Tryz.prog 175 #[.pointer (some ⟨b, o, none⟩), .bool true] w fun e w' => e = .returned (.tuple #[]) ∧
      ∃ v w1, Below w.heap.size w w1 ∧ Elem (NewIn w w1) w1 v [1] ∧ StkPost (fun k => M k ∨ NewIn w w1 k) b o T c w1 w' (D ++ [v]) := by
  have H := Lib.hid h
  clear h
  go_enter Tryz.func175, Tryz.ntmps175
  go_wp2_with fail
  refine (fromTrue w).mono ?_
  rintro e w1 ⟨v, rfl, hb, he⟩
  have HE := Lib.hid he
  have hI : StkIn (fun k => M k ∨ NewIn w w1 k) b o T c w1 dv D := by
    have hbl := lt_of_block H.out.blk
    refine ⟨?_, (hb.block b hbl).trans H.out.blk, H.out.cell, H.out.row.of_block (fun g hg => hb.block g (H.out.row.lt g hg)), H.out.nb, ?_, ?_⟩
    · rintro k (hk | hk)
      · exact Nat.lt_of_lt_of_le (H.out.lt k hk) hb.size
      · exact hk.2
    · rintro k hk (hk' | hk')
      · exact H.out.nM k hk hk'
      · have := H.out.row.lt k hk; unfold NewIn at hk'; omega
    · rintro (hk' | hk')
      · exact H.out.nMb hk'
      · unfold NewIn at hk'; omega
  obtain ⟨p, cc, rfl, _⟩ := he
  have HI := Lib.hid hI
  have HB := Lib.hid hb
  clear hI hb
  go_wp2_with fail
  refine (push_any HI.out _ _ _ hD).mono ?_
  rintro e w' ⟨rfl, hq⟩
  have HQ := Lib.hid hq
  clear hq
  go_wp2_with fail
  go_end0
  exact ⟨rfl, _, _, HB.out, HE.out, HQ.out⟩

set_option maxHeartbeats 1000000 in
set_option maxRecDepth 100000 in
theorem h_equal {K : EngK} {V : EngW} {E A : List (List Int)} {a : List Int} {w : World} (h : EngA K V (E ++ [a, a]) A w) (hl : E.length ≤ 10000) (p : Addr) (dat : Value) :
    Calls Tryz.prog 118 #[.pointer (some p), dat, .pointer (some ⟨K.e, 0, none⟩)] w (HandPostA K V (E ++ [[1]]) A w) := by
  obtain ⟨D, hD, hE⟩ := h.row
  have hE : Elems (LiveA K V w) w D ((E ++ [a]) ++ [a]) := hE.cast rfl (by simp)
  obtain ⟨D1, x2, rfl, hE1, e2⟩ := hE.last
  have F2 := Lib.hid e2
  obtain ⟨p2, k2, rfl, _⟩ := e2
  obtain ⟨D0, x1, rfl, hE0, e1⟩ := hE1.last
  have F1 := Lib.hid e1
  obtain ⟨p1, k1, rfl, _⟩ := e1
  have hl0 : D0.length ≤ 10000 := by rw [hE0.length]; exact hl
  have HS := Lib.hid (h.stkIn hD)
  have H := Lib.hid h
  have HE := Lib.hid hE0
  clear h hD hE hE1 hE0
  go_enter Tryz.func118, Tryz.ntmps118
  go_wp2_with fail
  refine (pop_any (o := 23) HS.out (by simp; omega)).mono ?_
  rintro e w1 ⟨rfl, hp⟩
  obtain ⟨dv1, hI, hK⟩ := hp.next HS.out
  have I1 := Lib.hid hI
  have N1 := Lib.hid hK
  clear hp hI hK
  go_wp2_with fail
  refine (pop_any (o := 23) I1.out (by omega)).mono ?_
  rintro e w2 ⟨rfl, hp⟩
  obtain ⟨dv2, hI, hK⟩ := I1.out.next N1.out hp
  have hk := hK.mono (M' := LiveA K V w) (fun _ h => h.s)
  have X1 := Lib.hid (F1.out.kept hk)
  have X2 := Lib.hid (F2.out.kept hk)
  obtain ⟨s, E1, T1⟩ := H.out.post0 (E' := E) (hI.done hK) (HE.out.kept hk (fun _ h => h))
  have T1d := Lib.hid (T1.trans E1.drew.2)
  have HE1 := Lib.hid E1.drew.1
  clear hp hI hK hk I1 N1 E1 T1
  go_wp2_with fail
  refine wp_region_still_tail 6 (by kernel_rfl) (by kernel_rfl) ?_
  simp only [List.take_succ_cons, List.take_zero, List.drop_succ_cons, List.drop_zero]
  change wpStill _ _ (World.drew _) _ _ _
  repeat still_step
  still_call ((equal_same (w := w2.drew) (X2.out.kept (Kept.refl _ _).drew) (X1.out.kept (Kept.refl _ _).drew)).mono (by rintro e w ⟨rfl, rfl⟩; exact ⟨rfl, rfl⟩))
  repeat still_step
  refine wpStill_nil ?_
  change wpList _ _ _ _ _ (World.drew _)
  obtain ⟨D, hD, hE⟩ := HE1.out.row
  have hlD : D.length ≤ 1000000 := by rw [hE.length]; omega
  have HS2 := Lib.hid (HE1.out.stkIn hD)
  have HEE := Lib.hid hE
  clear hD hE
  go_wp2_with fail
  refine (pushTrue (o := 23) HS2.out hlD).mono ?_
  rintro e w4 ⟨rfl, v, w3, hb, hx, hp⟩
  have hk := hp.choose_spec.2.2.2.2
  have hk1 : Kept (LiveA K { V with stk := s } w2.drew) w2.drew w3 := (kept_of_below hb).mono fun k hk => hk.1
  have HP := Lib.hid (HE1.out.post (E' := E ++ [[1]]) hb hp (.snoc ((HEE.out.kept hk1 (fun k h => (.inl h : LiveA K { V with stk := s } w2.drew k ∨ NewIn w2.drew w3 k))).kept (hk.mono fun _ h => h.imp_left LiveA.s) (fun _ h => h)) ((hx.mono (fun k h => (.inr h : LiveA K { V with stk := s } w2.drew k ∨ NewIn w2.drew w3 k))).kept (hk.mono fun _ h => h.imp_left LiveA.s))))
  clear hx hp hk hb hk1
  go_wp2_with fail
  go_ret
  obtain ⟨s2, E2, T2⟩ := HP.out
  exact ⟨rfl, s2, V.alt, E2, T1d.out.trans T2⟩

set_option maxHeartbeats 1000000 in
set_option maxRecDepth 100000 in
theorem h_verify {K : EngK} {V : EngW} {E A : List (List Int)} {w : World} (h : EngA K V (E ++ [[1]]) A w) (hl : E.length ≤ 10000) (p : Value) (c : Int) :
    Calls Tryz.prog 162 #[p, .pointer (some ⟨K.e, 0, none⟩), .int .i64 c] w (HandPostA K V E A w) := by
  obtain ⟨D, hD, hE⟩ := h.row
  obtain ⟨D0, x, rfl, hE0, e1⟩ := hE.last
  have F := Lib.hid e1
  obtain ⟨p1, k1, rfl, _⟩ := e1
  have hl' : D0.length ≤ 1000000 := by rw [hE0.length]; omega
  have HS := Lib.hid (h.stkIn hD)
  have H := Lib.hid h
  have HE := Lib.hid hE0
  clear h hD hE hE0
  go_enter Tryz.func162, Tryz.ntmps162
  go_wp2_with fail
  refine (popBool_one (o := 23) HS.out hl' (F.out.mono fun _ h => h.s)).mono ?_
  rintro e w1 ⟨rfl, h1⟩
  have hk := (h1.choose_spec.2.2.2.2).mono (M' := LiveA K V w) (fun _ h => h.s)
  have HP := Lib.hid (H.out.post0 (E' := E) h1 (HE.out.kept hk (fun _ h => h)))
  clear h1 hk
  go_wp2_with fail
  go_ret
  exact HandPostA.of HP.out

set_option maxHeartbeats 1000000 in
set_option maxRecDepth 100000 in
theorem h_eqverify {K : EngK} {V : EngW} {E A : List (List Int)} {a : List Int} {w : World} (h : EngA K V (E ++ [a, a]) A w) (hl : E.length ≤ 10000) (p : Addr) {dp : Option Addr} {dn dk : Nat} :
    Calls Tryz.prog 119 #[.pointer (some p), .slice dp dn dk, .pointer (some ⟨K.e, 0, none⟩)] w (HandPostA K V E A w) := by
  have H := Lib.hid h
  clear h
  go_enter Tryz.func119, Tryz.ntmps119
  go_wp2_with fail
  refine (h_equal H.out hl p _).mono ?_
  rintro e w1 ⟨rfl, s, t, E1, T1⟩
  have HE1 := Lib.hid E1
  have HT1 := Lib.hid T1
  clear E1 T1
  go_wp2_with fail
  refine (h_verify HE1.out hl _ _).mono ?_
  rintro e w2 ⟨rfl, s2, t2, E2, T2⟩
  have HE2 := Lib.hid E2
  have HT2 := Lib.hid (HT1.out.trans T2)
  clear E2 T2
  go_wp2_with fail
  go_ret
  exact ⟨rfl, s2, t2, HE2.out, HT2.out⟩
end Go.Proofs.YtaohcejbjeaemaaGreatDoor

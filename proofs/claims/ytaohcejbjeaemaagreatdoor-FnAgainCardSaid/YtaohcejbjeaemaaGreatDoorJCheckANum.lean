import Derived.Test.YtaohcejbjeaemaaGreatDoorJExecAStepA
import Derived.Test.YtaohcejbjeaemaaGreatDoorJStackNipB
namespace Go.Proofs.YtaohcejbjeaemaaGreatDoor
open Go Go.RowKit

/-- A state after a walk on the first stack. -/
theorem EngA.post0 {K : EngK} {V : EngW} {E E' A : List (List Int)} {w w' : World} (h : EngA K V E A w) {D' : List Value}
    (p : StkPost (BareS K V w) K.e 23 90 (cellsA K V) w w' D') (hE : Elems (LiveA K V w) w' D' E') : ∃ s, EngA K { V with stk := s } E' A w' ∧ ToA K V w { V with stk := s } w' := by
  obtain ⟨dv', h1, h2, h3, h4, h5⟩ := p
  have hn : ∀ k, ¬ NewIn w w k := fun k hk => Nat.lt_irrefl _ (Nat.lt_of_lt_of_le hk.2 hk.1)
  exact h.post (Below.refl _ _) ⟨dv', h1, h2, h3, fun k e hk => hk.elim (h4 k e) (hn k), h5.mono fun k hk => hk.elim id fun hk => absurd hk (hn k)⟩ (hE.kept (Kept.refl _ _) fun _ hk => .inl hk)

theorem popBool_one {M : Nat → Prop} {b o : Nat} {T : TypeId} {c : Array Value} {w : World} {dv : Value} {D : List Value} {p : Option Addr} {m k : Nat} (h : StkIn M b o T c w dv (D ++ [.slice p m k])) (hD : D.length ≤ 1000000) (hx : Elem M w (.slice p m k) [1]) :
    Calls Tryz.prog 50 #[.pointer (some ⟨b, o, none⟩)] w fun e w' => e = .returned (.tuple #[.bool true, .nilIface]) ∧ StkPost M b o T c w w' D := by
  have H := Lib.hid h
  have HX := Lib.hid hx
  clear h hx
  go_enter Tryz.func50, Tryz.ntmps50
  go_wp2_with fail
  refine (pop_any H.out hD).mono ?_
  rintro e w1 ⟨rfl, h1⟩
  have hy := HX.out.kept h1.choose_spec.2.2.2.2
  have H1 := Lib.hid h1
  have HY := Lib.hid hy
  clear h1 hy
  go_wp2_with fail
  refine (asBool_one HY.out).mono ?_
  rintro e w2 ⟨rfl, rfl⟩
  go_wp2_with fail
  go_ret2
  exact ⟨rfl, H1.out⟩

set_option maxHeartbeats 4000000 in
set_option maxRecDepth 100000 in
theorem checkErr_one {K : EngK} {V : EngW} {E A : List (List Int)} {w : World} (h : EngA K V (E ++ [[1]]) A w) (hE : E.length ≤ 1000) (hsi : V.si = 2) (hfl : (bits .and .u32 K.flags 32 == 32) = false) :
    Calls Tryz.prog 28 #[.pointer (some ⟨K.e, 0, none⟩), .bool true] w fun e w' => e = .returned .nilIface ∧ ∃ s, EngA K { V with stk := s } E A w' ∧ ToA K V w { V with stk := s } w' := by
  have c32 : w.cell? ⟨K.e, 32, none⟩ = some (.pointer none) := h.cell 32
  have c30 : w.cell? ⟨K.e, 30, none⟩ = some (.slice none 0 0) := h.cell 30
  have c11 : w.cell? ⟨K.e, 11, none⟩ = some (.slice (some ⟨K.scs, 0, none⟩) 2 K.scap) := h.cell 11
  have c12 : w.cell? ⟨K.e, 12, none⟩ = some (.int .i64 2) := by rw [h.cell 12, ← hsi]; rfl
  have c0 : w.cell? ⟨K.e, 0, none⟩ = some (.int .u32 K.flags) := h.cell 0
  have c23 : w.cell? ⟨K.e, 23, none⟩ = some V.stk := h.cell 23
  obtain ⟨D, hD, hE2⟩ := h.row
  obtain ⟨D', x, rfl, hE3, hx⟩ := hE2.last
  obtain ⟨p, m, rfl, hm⟩ := hx
  have hx : Elem (LiveA K V w) w (.slice p ([1] : List Int).length m) [1] := ⟨p, m, rfl, hm⟩
  have hl := hE3.length
  have ⟨sp, sk, hs⟩ : ∃ sp sk, V.stk = .slice sp (D' ++ [Value.slice p ([1] : List Int).length m]).length sk := by
    rcases hD.form with ⟨h1, h2⟩ | ⟨g, cap, cur, h1, _⟩
    · simp at h2
    · exact ⟨_, _, h1⟩
  have hlen : (D' ++ [Value.slice p ([1] : List Int).length m]).length = D'.length + 1 := by simp
  rw [hs, hlen] at c23
  have hlt : decide (((D'.length + 1 : Nat) : Int) < 1) = false := by simp; omega
  have h22 : decide ((2 : Int) < ((2 : Nat) : Int)) = false := by decide
  have hdl : D'.length + 1 ≤ 1000000 := by omega
  have hdl' : D'.length ≤ 1000000 := by omega
  have hst := Lib.hid (h.stkIn hD)
  have H := Lib.hid h
  have HX := Lib.hid hx
  have HE := Lib.hid hE3
  clear h hx hD hE2 hE3 hm hs hlen hE hsi
  go_enter Tryz.func28, Tryz.ntmps28
  go_wp2_with fail
  go_quiet (fail)
  go_wp2_with first
    | (go_at_call 49; refine (wva_any (w := w.drewN _) (by exact c30)).mono ?_; rintro e w' ⟨rfl, rfl⟩)
    | (go_at_call 31; refine (hasFlag_any (w := w.drewN _) (fl := K.flags) (by exact c0)).mono ?_; rintro e w' ⟨rfl, rfl⟩; rw [hfl])
    | (go_at_call 40; refine (depth_any (o := 23) (w := w.drewN _) (by exact c23) hdl).mono ?_; rintro e w' ⟨rfl, rfl⟩)
  refine (popBool_one (o := 23) (w := w.drewN _) (M := BareS K V w) (T := 90) (c := cellsA K V) (D := D') ⟨hst.out.lt, block_drewN hst.out.blk _, hst.out.cell, hst.out.row.of_block (fun _ _ => rfl), hst.out.nb, hst.out.nM, hst.out.nMb⟩ hdl' ((HX.out.kept ((Kept.refl _ _).drewN _)).mono fun _ h => h.s)).mono ?_
  rintro e w1 ⟨rfl, h1⟩
  have hk : Kept (BareS K V w) w w1 := ((Kept.refl _ w).drewN _).trans h1.choose_spec.2.2.2.2
  have hp := H.out.post0 (E' := E) (D' := D') ⟨h1.choose, h1.choose_spec.1, h1.choose_spec.2.1, h1.choose_spec.2.2.1, h1.choose_spec.2.2.2.1, hk⟩ (HE.out.kept (hk.mono fun _ h => h.s) (fun _ h => h))
  have HP := Lib.hid hp
  clear hp h1 hk
  go_wp2_with fail
  go_ret
  obtain ⟨s, hs⟩ := HP.out
  exact ⟨rfl, s, hs⟩
end Go.Proofs.YtaohcejbjeaemaaGreatDoor
namespace Go.Proofs.YtaohcejbjeaemaaGreatDoor
open Go Go.RowKit

set_option maxHeartbeats 400000 in
set_option maxRecDepth 100000 in
theorem bytes_small (n : Int) (h1 : 1 ≤ n) (h2 : n ≤ 127) (ha : bits .and .i64 n 255 = n) (hb : bits .and .u8 n 128 = 0) (w : World) :
    Calls Tryz.prog 199 #[.int .i64 n] w (Copy [n] w) := by
  have h0 : (n == 0) = false := by simp; omega
  have hsh : n / 256 = 0 := by omega
  have hmk : ∀ w : World, (Instr.makeSlice 25 (.int .i64 0) (.int .i64 9)).run Tryz.prog w = .ok (.slice (some ⟨w.heap.size, 0, none⟩) 0 9) (w.alloc (.cells #[.int .u8 0, .int .u8 0, .int .u8 0, .int .u8 0, .int .u8 0, .int .u8 0, .int .u8 0, .int .u8 0, .int .u8 0] 5)) := fun w => by kernel_rfl
  go_enter Tryz.func199, Tryz.ntmps199
  go_wp2_with fail
  refine wp_loop_rounds 2 ?_
  rw [rounds_succ]
  go_wp2_with fail
  rw [rounds_succ]
  go_wp2_with fail
  go_ret
  refine ⟨_, rfl, ((Below.refl _ _).alloc (Nat.le_refl _) _).alloc (by simp) _, ⟨_, 9, rfl, by simp, by simp [maxLen], by simp, by simp; omega, fun _ => ⟨w.heap.size, 0, rfl, ⟨Nat.le_refl _, by simp; omega⟩, ?_⟩⟩⟩
  intro i hi
  obtain rfl : i = 0 := by simp at hi; exact hi
  rw [World.cell?_alloc_past _ _ _ (by simp), World.cell?_alloc_at _ _ _ _ rfl]
  rfl

/-- A number from 1 to 16 on a stack. -/
theorem one_to_sixteen (n : Nat) (h1 : 1 ≤ n) (h2 : n ≤ 16) : bits .and .i64 (n : Int) 255 = n ∧ bits .and .u8 (n : Int) 128 = 0 := by
  have hh : ∀ k : Fin 17, bits .and .i64 ((k.val : Nat) : Int) 255 = (k.val : Nat) ∧ bits .and .u8 ((k.val : Nat) : Int) 128 = 0 := by decide +kernel
  exact hh ⟨n, by omega⟩

set_option maxHeartbeats 400000 in
set_option maxRecDepth 100000 in
theorem pushInt_small {M : Nat → Prop} {b o : Nat} {T : TypeId} {c : Array Value} {w : World} {dv : Value} {D : List Value} (h : StkIn M b o T c w dv D) (hD : D.length ≤ 1000000) (n : Nat) (h1 : 1 ≤ n) (h2 : n ≤ 16) (i : Int) (hi : i = n) :
    Calls Tryz.prog 160 #[.pointer (some ⟨b, o, none⟩), .int .i64 i] w fun e w' => e = .returned (.tuple #[]) ∧
      ∃ v w1, Below w.heap.size w w1 ∧ Elem (NewIn w w1) w1 v [(n : Int)] ∧ StkPost (fun k => M k ∨ NewIn w w1 k) b o T c w1 w' (D ++ [v]) := by
  subst hi
  have H := Lib.hid h
  have h3 := one_to_sixteen n h1 h2
  have h4 : (1 : Int) ≤ n := by omega
  have h5 : (n : Int) ≤ 127 := by omega
  have hB := bytes_small n h4 h5 h3.1 h3.2 w
  have HBy := Lib.hid hB
  clear h h3 hB
  go_enter Tryz.func160, Tryz.ntmps160
  go_wp2_with fail
  refine HBy.out.mono ?_
  rintro e w1 ⟨v, rfl, hb, he⟩
  have HE := Lib.hid he
  have hK : Kept M w w1 := (kept_of_below hb).mono H.out.lt
  have hI : StkIn (fun k => M k ∨ NewIn w w1 k) b o T c w1 dv D := by
    have hbl := lt_of_block H.out.blk
    refine ⟨?_, (hb.block b hbl).trans H.out.blk, H.out.cell, H.out.row.of_block (fun g hg => hb.block g (H.out.row.lt g hg)), H.out.nb, ?_, ?_⟩
    · rintro k (hk | hk)
      · exact Nat.lt_of_lt_of_le (H.out.lt k hk) hb.size
      · exact hk.2
    · rintro k hk (hk' | hk')
      · exact H.out.nM k hk hk'
      · have := H.out.row.lt k hk; unfold NewIn at hk'; omega
    · rintro (hk' | hk')
      · exact H.out.nMb hk'
      · unfold NewIn at hk'; omega
  obtain ⟨p, cc, rfl, _⟩ := he
  have HI := Lib.hid hI
  have HB := Lib.hid hb
  clear hK hI hb
  go_wp2_with fail
  refine (push_any HI.out _ _ _ hD).mono ?_
  rintro e w' ⟨rfl, hq⟩
  have HQ := Lib.hid hq
  clear hq
  go_wp2_with fail
  go_end0
  exact ⟨rfl, _, _, HB.out, HE.out, HQ.out⟩
end Go.Proofs.YtaohcejbjeaemaaGreatDoor

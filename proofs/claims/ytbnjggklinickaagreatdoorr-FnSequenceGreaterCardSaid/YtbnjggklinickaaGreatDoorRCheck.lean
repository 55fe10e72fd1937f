import Derived.Test.YtbnjggklinickaaGreatDoorRStep
namespace Go.Proofs.YtbnjggklinickaaGreatDoorR
open Go Go.RowKit

theorem popBool_one {M : Nat → Prop} {b o : Nat} {T : TypeId} {c : Array Value} {w : World} {dv : Value} {D : List Value} {p : Option Addr} {m k : Nat} (h : StkIn M b o T c w dv (D ++ [.slice p m k])) (hD : D.length ≤ 1000000) (hx : Elem M w (.slice p m k) [1]) :
    Calls Tryz.prog 42 #[.pointer (some ⟨b, o, none⟩)] w fun e w' => e = .returned (.tuple #[.bool true, .nilIface]) ∧ StkPost M b o T c w w' D := by
  have H := Lib.hid h
  have HX := Lib.hid hx
  clear h hx
  go_enter Tryz.func42, Tryz.ntmps42
  go_wp2_with fail
  refine (pop_any H.out hD).mono ?_
  rintro e w1 ⟨rfl, h1⟩
  have hy := HX.out.kept h1.choose_spec.2.2.2.2
  have H1 := Lib.hid h1
  have HY := Lib.hid hy
  clear h1 hy
  go_wp2_with fail
  refine (asBool_one HY.out).mono ?_
  rintro e w2 ⟨rfl, rfl⟩
  go_wp2_with fail
  go_ret2
  exact ⟨rfl, H1.out⟩
#print axioms popBool_one

set_option maxHeartbeats 4000000 in
set_option maxRecDepth 100000 in
theorem checkErr_one {K : EngK} {V : EngV} {E : List (List Int)} {w : World} (h : Eng K V (E ++ [[1]]) w) (hE : E.length ≤ 1000) (hsi : V.si = 2) (hfl : (bits .and .u32 K.flags 32 == 32) = false) :
    Calls Tryz.prog 20 #[.pointer (some ⟨K.e, 0, none⟩), .bool true] w fun e w' => e = .returned .nilIface ∧ ∃ s, Eng K { V with stk := s } E w' ∧ To K V w { V with stk := s } w' := by
  have c32 : w.cell? ⟨K.e, 32, none⟩ = some (.pointer none) := h.cell 32
  have c30 : w.cell? ⟨K.e, 30, none⟩ = some (.slice none 0 0) := h.cell 30
  have c11 : w.cell? ⟨K.e, 11, none⟩ = some (.slice (some ⟨K.scs, 0, none⟩) 2 K.scap) := h.cell 11
  have c12 : w.cell? ⟨K.e, 12, none⟩ = some (.int .i64 2) := by rw [h.cell 12, ← hsi]; rfl
  have c0 : w.cell? ⟨K.e, 0, none⟩ = some (.int .u32 K.flags) := h.cell 0
  have c23 : w.cell? ⟨K.e, 23, none⟩ = some V.stk := h.cell 23
  obtain ⟨D, hD, hE2⟩ := h.row
  obtain ⟨D', x, rfl, hE3, hx⟩ := hE2.last
  obtain ⟨p, m, rfl, hm⟩ := hx
  have hx : Elem (Live K V w) w (.slice p ([1] : List Int).length m) [1] := ⟨p, m, rfl, hm⟩
  have hl := hE3.length
  have ⟨sp, sk, hs⟩ : ∃ sp sk, V.stk = .slice sp (D' ++ [Value.slice p ([1] : List Int).length m]).length sk := by
    rcases hD.form with ⟨h1, h2⟩ | ⟨g, cap, cur, h1, _⟩
    · simp at h2
    · exact ⟨_, _, h1⟩
  have hlen : (D' ++ [Value.slice p ([1] : List Int).length m]).length = D'.length + 1 := by simp
  rw [hs, hlen] at c23
  have hlt : decide (((D'.length + 1 : Nat) : Int) < 1) = false := by simp; omega
  have h22 : decide ((2 : Int) < ((2 : Nat) : Int)) = false := by decide
  have hdl : D'.length + 1 ≤ 1000000 := by omega
  have hdl' : D'.length ≤ 1000000 := by omega
  have hst := Lib.hid (h.stkIn hD)
  have H := Lib.hid h
  have HX := Lib.hid hx
  have HE := Lib.hid hE3
  clear h hx hD hE2 hE3 hm hs hlen hE hsi
  go_enter Tryz.func20, Tryz.ntmps20
  go_wp2_with fail
  go_quiet (fail)
  go_wp2_with first
    | (go_at_call 41; refine (wva_any (w := w.drewN _) (by exact c30)).mono ?_; rintro e w' ⟨rfl, rfl⟩)
    | (go_at_call 23; refine (hasFlag_any (w := w.drewN _) (fl := K.flags) (by exact c0)).mono ?_; rintro e w' ⟨rfl, rfl⟩; rw [hfl])
    | (go_at_call 36; refine (depth_any (o := 23) (w := w.drewN _) (by exact c23) hdl).mono ?_; rintro e w' ⟨rfl, rfl⟩)
  refine (popBool_one (o := 23) (w := w.drewN _) (M := Live K V w) (T := 84) (c := engCells K V) (D := D') ⟨hst.out.lt, block_drewN hst.out.blk _, hst.out.cell, hst.out.row.of_block (fun _ _ => rfl), hst.out.nb, hst.out.nM, hst.out.nMb⟩ hdl' (HX.out.kept ((Kept.refl _ _).drewN _))).mono ?_
  rintro e w1 ⟨rfl, h1⟩
  have hk : Kept (Live K V w) w w1 := ((Kept.refl _ w).drewN _).trans h1.choose_spec.2.2.2.2
  have hp := H.out.post (E' := E) (D' := D') ⟨h1.choose, h1.choose_spec.1, h1.choose_spec.2.1, h1.choose_spec.2.2.1, h1.choose_spec.2.2.2.1, hk⟩ (HE.out.kept hk (fun _ h => h))
  have HP := Lib.hid hp
  clear hp h1 hk
  go_wp2_with fail
  go_ret
  obtain ⟨s, hs⟩ := HP.out
  exact ⟨rfl, s, hs⟩
#print axioms checkErr_one
end Go.Proofs.YtbnjggklinickaaGreatDoorR

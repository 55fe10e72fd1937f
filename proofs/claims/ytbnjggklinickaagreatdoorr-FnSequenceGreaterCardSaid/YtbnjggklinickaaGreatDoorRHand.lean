import Derived.Test.YtbnjggklinickaaGreatDoorRStep
import Derived.Test.YtbnjggklinickaaGreatDoorRNum
namespace Go.Proofs.YtbnjggklinickaaGreatDoorR
open Go Go.RowKit

/-- What an opcode's function leaves. -/
def HandPost (K : EngK) (V : EngV) (E' : List (List Int)) (w : World) (e : Ending) (w' : World) : Prop :=
  e = .returned .nilIface ∧ ∃ s, Eng K { V with stk := s } E' w' ∧ To K V w { V with stk := s } w'
theorem HandPost.ret {K : EngK} {V : EngV} {E' : List (List Int)} {w : World} (e : Ending) (w' : World) (h : HandPost K V E' w e w') : ∃ v, e = .returned v := ⟨_, h.1⟩

theorem Eng.at23 {K : EngK} {V : EngV} {E : List (List Int)} {w : World} (h : Eng K V E w) {D : List Value} (hr : Row w V.stk D) : StkIn (Live K V w) K.e 23 84 (engCells K V) w V.stk D := h.stkIn hr

set_option maxRecDepth 100000 in
theorem false_any {K : EngK} {V : EngV} {E : List (List Int)} {w : World} (h : Eng K V E w) (hl : E.length ≤ 1000000) (p : Addr) (dat : Value) :
    Calls Tryz.prog 75 #[.pointer (some p), dat, .pointer (some ⟨K.e, 0, none⟩)] w (HandPost K V (E ++ [[]]) w) := by
  obtain ⟨D, hD, hE⟩ := h.row
  have hl' : D.length ≤ 1000000 := by rw [hE.length]; exact hl
  have HS := Lib.hid (h.stkIn hD)
  have H := Lib.hid h
  have HE := Lib.hid hE
  clear h hD hE
  go_enter Tryz.func75, Tryz.ntmps75
  go_wp2_with fail
  refine (push_any (o := 23) HS.out none 0 0 hl').mono ?_
  rintro e w1 ⟨rfl, h1⟩
  have hk := h1.choose_spec.2.2.2.2
  have HP := Lib.hid (H.out.post h1 (.snoc (HE.out.kept hk (fun _ h => h)) (Elem.nil _ _)))
  clear h1 hk
  go_wp2_with fail
  go_ret
  exact ⟨rfl, HP.out⟩
#print axioms false_any

set_option maxRecDepth 100000 in
theorem pushData_any {K : EngK} {V : EngV} {E : List (List Int)} {w : World} (h : Eng K V E w) (hl : E.length ≤ 1000000) (p : Addr) {dat : Value} {bs : List Int} (hx : Elem (Live K V w) w dat bs) :
    Calls Tryz.prog 76 #[.pointer (some p), dat, .pointer (some ⟨K.e, 0, none⟩)] w (HandPost K V (E ++ [bs]) w) := by
  obtain ⟨D, hD, hE⟩ := h.row
  have hl' : D.length ≤ 1000000 := by rw [hE.length]; exact hl
  have HX := Lib.hid hx
  obtain ⟨pp, cc, rfl, _⟩ := hx
  have HS := Lib.hid (h.stkIn hD)
  have H := Lib.hid h
  have HE := Lib.hid hE
  clear h hD hE
  go_enter Tryz.func76, Tryz.ntmps76
  go_wp2_with fail
  refine (push_any (o := 23) HS.out pp bs.length cc hl').mono ?_
  rintro e w1 ⟨rfl, h1⟩
  have hk := h1.choose_spec.2.2.2.2
  have HP := Lib.hid (H.out.post h1 (.snoc (HE.out.kept hk (fun _ h => h)) (HX.out.kept hk)))
  clear h1 hk
  go_wp2_with fail
  go_ret
  exact ⟨rfl, HP.out⟩
#print axioms pushData_any

set_option maxRecDepth 100000 in
theorem drop_any {K : EngK} {V : EngV} {E : List (List Int)} {b : List Int} {w : World} (h : Eng K V (E ++ [b]) w) (hl : E.length ≤ 1000000) (p : Addr) (dat : Value) :
    Calls Tryz.prog 99 #[.pointer (some p), dat, .pointer (some ⟨K.e, 0, none⟩)] w (HandPost K V E w) := by
  obtain ⟨D, hD, hE⟩ := h.row
  obtain ⟨D', x, rfl, hE3, hx⟩ := hE.last
  obtain ⟨pp, m, rfl, hm⟩ := hx
  have hl' : D'.length ≤ 1000000 := by rw [hE3.length]; exact hl
  have HS := Lib.hid (h.stkIn hD)
  have H := Lib.hid h
  have HE := Lib.hid hE3
  clear h hD hE hE3 hm
  go_enter Tryz.func99, Tryz.ntmps99
  go_wp2_with fail
  refine (drop_one (o := 23) HS.out hl').mono ?_
  rintro e w1 ⟨rfl, h1⟩
  have hk := h1.choose_spec.2.2.2.2
  have HP := Lib.hid (H.out.post h1 (HE.out.kept hk (fun _ h => h)))
  clear h1 hk
  go_wp2_with fail
  go_ret
  exact ⟨rfl, HP.out⟩
#print axioms drop_any

/-- A state after a walk on the stack that has made bytes ahead. -/
theorem Eng.post2 {K : EngK} {V : EngV} {E E' : List (List Int)} {w w1 w' : World} (h : Eng K V E w) (hb : Below w.heap.size w w1) {D' : List Value}
    (p : StkPost (fun k => Live K V w k ∨ NewIn w w1 k) K.e 23 84 (engCells K V) w1 w' D') (hE : Elems (fun k => Live K V w k ∨ NewIn w w1 k) w' D' E') :
    ∃ s, Eng K { V with stk := s } E' w' ∧ To K V w { V with stk := s } w' := by
  obtain ⟨dv', h1, h2, h3, h4, h5⟩ := p
  have hs := hb.size
  have hl : ∀ k, (Live K V w k ∨ NewIn w w1 k) → Live K { V with stk := dv' } w' k := by
    intro k hk
    refine ⟨?_, ?_, fun e => h4 k e hk⟩
    · rcases hk with hk | hk
      · exact Nat.lt_of_lt_of_le hk.1 (Nat.le_trans hs h5.size)
      · exact Nat.lt_of_lt_of_le hk.2 h5.size
    · rcases hk with hk | hk
      · exact hk.2.1
      · exact Nat.ne_of_gt (Nat.lt_of_lt_of_le h.lt hk.1)
  have hk : Kept (Live K V w) w w' := ((kept_of_below hb).mono fun k hk => hk.1).trans (h5.mono fun k hk => .inl hk)
  refine ⟨dv', ⟨h1, ⟨D', h2, hE.kept (Kept.refl _ _) hl⟩, h3, fun a v hm => ⟨hl _ (.inl (h.mem a v hm).1), ?_⟩⟩, hk, fun k hk => hl k (.inl hk)⟩
  rw [hk.cell (h.mem a v hm).1]
  exact (h.mem a v hm).2

set_option maxHeartbeats 1000000 in
set_option maxRecDepth 100000 in
theorem opcodeN_any {K : EngK} {V : EngV} {E : List (List Int)} {w : World} (h : Eng K V E w) (hl : E.length ≤ 1000000) (p : Nat) (dat : Value) (n : Nat) (h1 : 1 ≤ n) (h2 : n ≤ 16) (v : Int) (hv : v = 80 + n) (c0 : w.cell? ⟨p, 0, none⟩ = some (.int .u8 v)) :
    Calls Tryz.prog 79 #[.pointer (some ⟨p, 0, none⟩), dat, .pointer (some ⟨K.e, 0, none⟩)] w (HandPost K V (E ++ [[(n : Int)]]) w) := by
  have hd := h.drew
  obtain ⟨D, hD, hE⟩ := hd.1.row
  have hl' : D.length ≤ 1000000 := by rw [hE.length]; exact hl
  have HS := Lib.hid (hd.1.stkIn hD)
  have hw : IntKind.u8.wrap (v - 80) = n := by rw [IntKind.wrap_u8]; omega
  have H := Lib.hid hd
  have HE := Lib.hid hE
  have HV := Lib.hid hv
  clear h hd hD hE hv
  go_enter Tryz.func79, Tryz.ntmps79
  go_wp2_with fail
  refine wp_region_still_tail 9 (by kernel_rfl) (by kernel_rfl) ?_
  simp only [List.take_succ_cons, List.take_zero, List.drop_succ_cons, List.drop_zero]
  change wpStill _ _ (World.drew _) _ _ _
  repeat still_step
  refine wpStill_nil ?_
  change wpList _ _ _ _ _ (World.drew _)
  go_wp2_with fail
  refine (pushInt_small (o := 23) HS.out hl' n h1 h2 _ (by first | rfl | omega)).mono ?_
  rintro e w2 ⟨rfl, x, w1, hb, hx, hp⟩
  have hk := hp.choose_spec.2.2.2.2
  have hk1 : Kept (Live K V w.drew) w.drew w1 := (kept_of_below hb).mono fun k hk => hk.1
  have HP := Lib.hid (H.out.1.post2 hb hp (.snoc ((HE.out.kept hk1 (fun _ h => .inl h)).kept hk (fun _ h => h)) ((hx.mono (fun _ h => .inr h)).kept hk)))
  clear hx hp hk hb hk1
  go_wp2_with fail
  go_ret
  obtain ⟨s, E2, T2⟩ := HP.out
  exact ⟨rfl, s, E2, H.out.2.trans T2⟩
#print axioms opcodeN_any
end Go.Proofs.YtbnjggklinickaaGreatDoorR

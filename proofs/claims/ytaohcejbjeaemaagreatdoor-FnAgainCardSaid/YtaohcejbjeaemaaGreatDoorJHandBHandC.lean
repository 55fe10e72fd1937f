import Derived.Test.YtaohcejbjeaemaaGreatDoorJHandA
import Derived.Test.YtaohcejbjeaemaaGreatDoorJBitsOpBase
import Derived.StillTailTactics
namespace Go.Proofs.YtaohcejbjeaemaaGreatDoor
open Go Go.RowKit

set_option maxRecDepth 100000 in
theorem h_false {K : EngK} {V : EngW} {E A : List (List Int)} {w : World} (h : EngA K V E A w) (hl : E.length ≤ 1000000) (p : Addr) (dat : Value) :
    Calls Tryz.prog 83 #[.pointer (some p), dat, .pointer (some ⟨K.e, 0, none⟩)] w (HandPostA K V (E ++ [[]]) A w) := by
  obtain ⟨D, hD, hE⟩ := h.row
  have hl' : D.length ≤ 1000000 := by rw [hE.length]; exact hl
  have HS := Lib.hid (h.stkIn hD)
  have H := Lib.hid h
  have HE := Lib.hid hE
  clear h hD hE
  go_enter Tryz.func83, Tryz.ntmps83
  go_wp2_with fail
  refine (push_any (o := 23) HS.out none 0 0 hl').mono ?_
  rintro e w1 ⟨rfl, h1⟩
  have hk := (h1.choose_spec.2.2.2.2).mono (M' := LiveA K V w) (fun _ h => h.s)
  have HP := Lib.hid (H.out.post0 h1 (.snoc (HE.out.kept hk (fun _ h => h)) (Elem.nil _ _)))
  clear h1 hk
  go_wp2_with fail
  go_ret
  exact HandPostA.of HP.out

set_option maxRecDepth 100000 in
theorem h_drop {K : EngK} {V : EngW} {E A : List (List Int)} {b : List Int} {w : World} (h : EngA K V (E ++ [b]) A w) (hl : E.length ≤ 1000000) (p : Addr) (dat : Value) :
    Calls Tryz.prog 107 #[.pointer (some p), dat, .pointer (some ⟨K.e, 0, none⟩)] w (HandPostA K V E A w) := by
  obtain ⟨D, hD, hE⟩ := h.row
  obtain ⟨D', x, rfl, hE3, hx⟩ := hE.last
  obtain ⟨pp, m, rfl, hm⟩ := hx
  have hl' : D'.length ≤ 1000000 := by rw [hE3.length]; exact hl
  have HS := Lib.hid (h.stkIn hD)
  have H := Lib.hid h
  have HE := Lib.hid hE3
  clear h hD hE hE3 hm
  go_enter Tryz.func107, Tryz.ntmps107
  go_wp2_with fail
  refine (drop_one (o := 23) HS.out hl').mono ?_
  rintro e w1 ⟨rfl, h1⟩
  have hk := (h1.choose_spec.2.2.2.2).mono (M' := LiveA K V w) (fun _ h => h.s)
  have HP := Lib.hid (H.out.post0 h1 (HE.out.kept hk (fun _ h => h)))
  clear h1 hk
  go_wp2_with fail
  go_ret
  exact HandPostA.of HP.out

set_option maxHeartbeats 1000000 in
set_option maxRecDepth 100000 in
theorem h_N {K : EngK} {V : EngW} {E A : List (List Int)} {w : World} (h : EngA K V E A w) (hl : E.length ≤ 1000000) (p : Nat) (dat : Value) (n : Nat) (h1 : 1 ≤ n) (h2 : n ≤ 16) (v : Int) (hv : v = 80 + n) (c0 : w.cell? ⟨p, 0, none⟩ = some (.int .u8 v)) :
    Calls Tryz.prog 87 #[.pointer (some ⟨p, 0, none⟩), dat, .pointer (some ⟨K.e, 0, none⟩)] w (HandPostA K V (E ++ [[(n : Int)]]) A w) := by
  have hd := h.drew
  obtain ⟨D, hD, hE⟩ := hd.1.row
  have hl' : D.length ≤ 1000000 := by rw [hE.length]; exact hl
  have HS := Lib.hid (hd.1.stkIn hD)
  have hw : IntKind.u8.wrap (v - 80) = n := by rw [IntKind.wrap_u8]; omega
  have H := Lib.hid hd
  have HE := Lib.hid hE
  have HV := Lib.hid hv
  clear h hd hD hE hv
  go_enter Tryz.func87, Tryz.ntmps87
  go_wp2_with fail
  refine wp_region_still_tail 9 (by kernel_rfl) (by kernel_rfl) ?_
  simp only [List.take_succ_cons, List.take_zero, List.drop_succ_cons, List.drop_zero]
  change wpStill _ _ (World.drew _) _ _ _
  repeat still_step
  refine wpStill_nil ?_
  change wpList _ _ _ _ _ (World.drew _)
  go_wp2_with fail
  refine (pushInt_small (o := 23) HS.out hl' n h1 h2 _ (by first | rfl | omega)).mono ?_
  rintro e w2 ⟨rfl, x, w1, hb, hx, hp⟩
  have hk := hp.choose_spec.2.2.2.2
  have hk1 : Kept (LiveA K V w.drew) w.drew w1 := (kept_of_below hb).mono fun k hk => hk.1
  have HP := Lib.hid (H.out.1.post hb hp (.snoc ((HE.out.kept hk1 (fun k h => (.inl h : LiveA K V w.drew k ∨ NewIn w.drew w1 k))).kept (hk.mono fun _ h => h.imp_left LiveA.s) (fun _ h => h)) ((hx.mono (fun k h => (.inr h : LiveA K V w.drew k ∨ NewIn w.drew w1 k))).kept (hk.mono fun _ h => h.imp_left LiveA.s))))
  clear hx hp hk hb hk1
  go_wp2_with fail
  go_ret
  obtain ⟨s, E2, T2⟩ := HP.out
  exact ⟨rfl, s, V.alt, E2, H.out.2.trans T2⟩

set_option maxHeartbeats 1000000 in
set_option maxRecDepth 100000 in
theorem h_toalt {K : EngK} {V : EngW} {E A : List (List Int)} {a : List Int} {w : World} (h : EngA K V (E ++ [a]) A w) (hl : E.length ≤ 10000) (ha : A.length ≤ 10000) (p : Addr) (dat : Value) :
    Calls Tryz.prog 97 #[.pointer (some p), dat, .pointer (some ⟨K.e, 0, none⟩)] w (HandPostA K V E (A ++ [a]) w) := by
  obtain ⟨D, hD, hE⟩ := h.row
  obtain ⟨D0, x, rfl, hE0, e1⟩ := hE.last
  have F := Lib.hid e1
  obtain ⟨p1, k1, rfl, _⟩ := e1
  have hl' : D0.length ≤ 1000000 := by rw [hE0.length]; omega
  have HS := Lib.hid (h.stkIn hD)
  have H := Lib.hid h
  have HE := Lib.hid hE0
  clear h hD hE hE0
  go_enter Tryz.func97, Tryz.ntmps97
  go_wp2_with fail
  refine (pop_any (o := 23) HS.out hl').mono ?_
  rintro e w1 ⟨rfl, h1⟩
  have hk := (h1.choose_spec.2.2.2.2).mono (M' := LiveA K V w) (fun _ h => h.s)
  obtain ⟨s, E1, T1⟩ := H.out.post0 (E' := E) h1 (HE.out.kept hk (fun _ h => h))
  have x1 := (F.out.kept hk).mono T1.live
  obtain ⟨DA, hDA, hEA⟩ := E1.arow
  have hla : DA.length ≤ 1000000 := by rw [hEA.length]; omega
  have HA := Lib.hid (E1.altIn hDA)
  have HE1 := Lib.hid E1
  have HT1 := Lib.hid T1
  have HEA := Lib.hid hEA
  have X1 := Lib.hid x1
  clear h1 hk E1 T1 hDA hEA x1
  go_wp2_with fail
  refine (push_any (o := 25) HA.out p1 a.length k1 hla).mono ?_
  rintro e w2 ⟨rfl, h2⟩
  have hk2 := (h2.choose_spec.2.2.2.2).mono (M' := LiveA K { V with stk := s } w1) (fun _ h => h.t)
  obtain ⟨t, E2, T2⟩ := HE1.out.postT (A' := A ++ [a]) h2 (.snoc (HEA.out.kept hk2 (fun _ h => h)) (X1.out.kept hk2))
  have HE2 := Lib.hid E2
  have HT2 := Lib.hid (HT1.out.trans T2)
  clear h2 hk2 E2 T2
  go_wp2_with fail
  go_ret
  exact ⟨rfl, s, t, HE2.out, HT2.out⟩

set_option maxHeartbeats 1000000 in
set_option maxRecDepth 100000 in
theorem h_fromalt {K : EngK} {V : EngW} {E A : List (List Int)} {a : List Int} {w : World} (h : EngA K V E (A ++ [a]) w) (hl : E.length ≤ 10000) (ha : A.length ≤ 10000) (p : Addr) (dat : Value) :
    Calls Tryz.prog 98 #[.pointer (some p), dat, .pointer (some ⟨K.e, 0, none⟩)] w (HandPostA K V (E ++ [a]) A w) := by
  obtain ⟨D, hD, hE⟩ := h.arow
  obtain ⟨D0, x, rfl, hE0, e1⟩ := hE.last
  have F := Lib.hid e1
  obtain ⟨p1, k1, rfl, _⟩ := e1
  have hl' : D0.length ≤ 1000000 := by rw [hE0.length]; omega
  have HS := Lib.hid (h.altIn hD)
  have H := Lib.hid h
  have HE := Lib.hid hE0
  clear h hD hE hE0
  go_enter Tryz.func98, Tryz.ntmps98
  go_wp2_with fail
  refine (pop_any (o := 25) HS.out hl').mono ?_
  rintro e w1 ⟨rfl, h1⟩
  have hk := (h1.choose_spec.2.2.2.2).mono (M' := LiveA K V w) (fun _ h => h.t)
  obtain ⟨t, E1, T1⟩ := H.out.postT (A' := A) h1 (HE.out.kept hk (fun _ h => h))
  have x1 := (F.out.kept hk).mono T1.live
  obtain ⟨DS, hDS, hES⟩ := E1.row
  have hls : DS.length ≤ 1000000 := by rw [hES.length]; omega
  have HA := Lib.hid (E1.stkIn hDS)
  have HE1 := Lib.hid E1
  have HT1 := Lib.hid T1
  have HES := Lib.hid hES
  have X1 := Lib.hid x1
  clear h1 hk E1 T1 hDS hES x1
  go_wp2_with fail
  refine (push_any (o := 23) HA.out p1 a.length k1 hls).mono ?_
  rintro e w2 ⟨rfl, h2⟩
  have hk2 := (h2.choose_spec.2.2.2.2).mono (M' := LiveA K { V with alt := t } w1) (fun _ h => h.s)
  obtain ⟨s, E2, T2⟩ := HE1.out.post0 (E' := E ++ [a]) h2 (.snoc (HES.out.kept hk2 (fun _ h => h)) (X1.out.kept hk2))
  have HE2 := Lib.hid E2
  have HT2 := Lib.hid (HT1.out.trans T2)
  clear h2 hk2 E2 T2
  go_wp2_with fail
  go_ret
  exact ⟨rfl, s, t, HE2.out, HT2.out⟩
end Go.Proofs.YtaohcejbjeaemaaGreatDoor
namespace Go.Proofs.YtaohcejbjeaemaaGreatDoor
open Go Go.RowKit

/-- Numbers of one sign at most: 0 has none. -/
def Small (bs : List Int) (n : Int) : Prop := bs = [] ∧ n = 0 ∨ bs = [n] ∧ 1 ≤ n ∧ n ≤ 16

theorem msn_small {M : Nat → Prop} {w : World} {x : Value} {bs : List Int} {n : Int} (hx : Elem M w x bs) (hn : Small bs n) :
    Calls Tryz.prog 163 #[x, .bool false, .int .i64 4] w fun e w' => e = .returned (.tuple #[.int .i64 n, .nilIface]) ∧ w = w' := by
  obtain ⟨p, c, rfl, h1, h2, h3, h4, h5⟩ := hx
  rcases hn with ⟨rfl, rfl⟩ | ⟨rfl, r1, r2⟩
  · exact msn_zero 4 (by decide)
  · obtain ⟨b, o, rfl, _, hc⟩ := h5 (by simp)
    exact msn_one 4 (by decide) (hc 0 (by simp)) ⟨by omega, by omega⟩

set_option maxHeartbeats 1000000 in
set_option maxRecDepth 100000 in
theorem popInt_any {M M' : Nat → Prop} {b o : Nat} {T : TypeId} {c : Array Value} {w : World} {dv : Value} {D : List Value} {p : Option Addr} {m k : Nat} {bs : List Int} {n : Int} (h : StkIn M b o T c w dv (D ++ [.slice p m k])) (hD : D.length ≤ 1000000) (hv : c[o + 1]? = some (.bool false))
    (hx : Elem M' w (.slice p m k) bs) (hM : ∀ k, M' k → M k) (hn : Small bs n) :
    Calls Tryz.prog 170 #[.pointer (some ⟨b, o, none⟩)] w fun e w' => e = .returned (.tuple #[.int .i64 n, .nilIface]) ∧ StkPost M b o T c w w' D := by
  have H := Lib.hid h
  have HX := Lib.hid hx
  clear h hx
  go_enter Tryz.func170, Tryz.ntmps170
  go_wp2_with fail
  refine (pop_any H.out hD).mono ?_
  rintro e w1 ⟨rfl, h1⟩
  have hy := HX.out.kept ((h1.choose_spec.2.2.2.2).mono hM)
  have hc1 : w1.cell? ⟨b, o + 1, none⟩ = some (.bool false) := by
    rw [cell_at h1.choose_spec.1, Array.getElem?_setIfInBounds, if_neg (by omega)]; exact hv
  have H1 := Lib.hid h1
  have HY := Lib.hid hy
  clear h1 hy
  go_wp2_with fail
  refine (msn_small HY.out hn).mono ?_
  rintro e w2 ⟨rfl, rfl⟩
  go_wp2_with fail
  go_ret2
  exact ⟨rfl, H1.out⟩

theorem int32_any (n : Int) (h0 : 0 ≤ n) (h1 : n ≤ 16) (w : World) : Calls Tryz.prog 172 #[.int .i64 n] w fun e w' => e = .returned (.int .i32 n) ∧ w = w' := by
  have q1 : ¬ 2147483647 < n := by omega
  have q2 : ¬ n < -2147483648 := by omega
  go_enter Tryz.func172, Tryz.ntmps172
  go_wp2
  go_ret
  exact ⟨rfl, rfl⟩

-- BY gennum.py
set_option maxHeartbeats 1000000 in
set_option maxRecDepth 100000 in
theorem h_pick_0 {K : EngK} {V : EngW} {E A : List (List Int)} {a1 : List Int} {bs : List Int} {w : World} (h : EngA K V (E ++ [a1, bs]) A w) (hn : Small bs 0) (hl : E.length ≤ 10000) (p : Addr) (dat : Value) :
    Calls Tryz.prog 111 #[.pointer (some p), dat, .pointer (some ⟨K.e, 0, none⟩)] w (HandPostA K V (E ++ [a1, a1]) A w) := by
  obtain ⟨D, hD, hE⟩ := h.row
  have hEt : Elems (LiveA K V w) w D ((E ++ [a1]) ++ [bs]) := hE.cast rfl (by first | rfl | simp)
  obtain ⟨D1, x, rfl, hE1, e1⟩ := hEt.last
  have F := Lib.hid e1
  obtain ⟨p0, k0, rfl, _⟩ := e1
  have hl' : D1.length ≤ 1000000 := by rw [hE1.length]; simp; omega
  have HS := Lib.hid (h.stkIn hD)
  have H := Lib.hid h
  have HE := Lib.hid hE1
  have hl1 := hl
  clear h hD hE hEt hE1
  go_enter Tryz.func111, Tryz.ntmps111
  go_wp2_with fail
  refine (popInt_any (o := 23) HS.out hl' rfl F.out (fun _ h => h.s) hn).mono ?_
  rintro e w1 ⟨rfl, h1⟩
  have hk := (h1.choose_spec.2.2.2.2).mono (M' := LiveA K V w) (fun _ h => h.s)
  obtain ⟨s, E1, T1⟩ := H.out.post0 (E' := E ++ [a1]) h1 (HE.out.kept hk (fun _ h => h))
  have T1d := Lib.hid E1.drew.2
  have E1 := E1.drew.1
  have T1 := T1
  have HE1 := Lib.hid E1
  have HT1 := Lib.hid T1
  clear h1 hk E1 T1
  go_wp2_with fail
  refine wp_region_still_tail 5 (by kernel_rfl) (by kernel_rfl) ?_
  simp only [List.take_succ_cons, List.take_zero, List.drop_succ_cons, List.drop_zero]
  change wpStill _ _ (World.drew _) _ _ _
  repeat still_step
  still_call ((int32_any 0 (by decide) (by decide) _).mono (by rintro e w ⟨rfl, rfl⟩; exact ⟨rfl, rfl⟩))
  repeat still_step
  refine wpStill_nil ?_
  change wpList _ _ _ _ _ (World.drew _)
  obtain ⟨D, hD, hE1⟩ := HE1.out.row
  have hE1 : Elems (LiveA K { V with stk := s } w1.drew) w1.drew D (E ++ [a1]) := hE1.cast rfl (by first | rfl | simp)
  obtain ⟨D0, x1, rfl, hE0, e1⟩ := hE1.last
  have F1 := Lib.hid e1
  obtain ⟨p1, k1, rfl, _⟩ := e1
  have hl' : D0.length ≤ 10000 := by rw [hE0.length]; exact hl1
  have HS := Lib.hid ((HE1.out.stkIn hD).cast (D' := D0 ++ [.slice p1 a1.length k1]) (by first | rfl | simp))
  have HE := Lib.hid hE0
  clear hD hE0 hE1
  go_wp2_with fail
  refine (pick_0 (o := 23) HS.out hl').mono ?_
  rintro e w2 ⟨rfl, h2⟩
  have hk := (h2.choose_spec.2.2.2.2).mono (M' := LiveA K { V with stk := s } w1.drew) (fun _ h => h.s)
  have HP := Lib.hid (HE1.out.post0 (E' := (E ++ [a1, a1])) h2 (Elems.cast (.snoc (.snoc (HE.out.kept hk (fun _ h => h)) (F1.out.kept hk)) (F1.out.kept hk)) (by first | rfl | simp) (by first | rfl | simp)))
  clear h2 hk
  go_wp2_with fail
  go_ret
  obtain ⟨s2, E2, T2⟩ := HP.out
  exact ⟨rfl, s2, V.alt, E2, HT1.out.trans (T1d.out.trans T2)⟩

set_option maxHeartbeats 1000000 in
set_option maxRecDepth 100000 in
theorem h_pick_5 {K : EngK} {V : EngW} {E A : List (List Int)} {a1 a2 a3 a4 a5 a6 : List Int} {bs : List Int} {w : World} (h : EngA K V (E ++ [a1, a2, a3, a4, a5, a6, bs]) A w) (hn : Small bs 5) (hl : E.length ≤ 10000) (p : Addr) (dat : Value) :
    Calls Tryz.prog 111 #[.pointer (some p), dat, .pointer (some ⟨K.e, 0, none⟩)] w (HandPostA K V (E ++ [a1, a2, a3, a4, a5, a6, a1]) A w) := by
  obtain ⟨D, hD, hE⟩ := h.row
  have hEt : Elems (LiveA K V w) w D ((E ++ [a1, a2, a3, a4, a5, a6]) ++ [bs]) := hE.cast rfl (by first | rfl | simp)
  obtain ⟨D1, x, rfl, hE1, e1⟩ := hEt.last
  have F := Lib.hid e1
  obtain ⟨p0, k0, rfl, _⟩ := e1
  have hl' : D1.length ≤ 1000000 := by rw [hE1.length]; simp; omega
  have HS := Lib.hid (h.stkIn hD)
  have H := Lib.hid h
  have HE := Lib.hid hE1
  have hl1 := hl
  clear h hD hE hEt hE1
  go_enter Tryz.func111, Tryz.ntmps111
  go_wp2_with fail
  refine (popInt_any (o := 23) HS.out hl' rfl F.out (fun _ h => h.s) hn).mono ?_
  rintro e w1 ⟨rfl, h1⟩
  have hk := (h1.choose_spec.2.2.2.2).mono (M' := LiveA K V w) (fun _ h => h.s)
  obtain ⟨s, E1, T1⟩ := H.out.post0 (E' := E ++ [a1, a2, a3, a4, a5, a6]) h1 (HE.out.kept hk (fun _ h => h))
  have T1d := Lib.hid E1.drew.2
  have E1 := E1.drew.1
  have T1 := T1
  have HE1 := Lib.hid E1
  have HT1 := Lib.hid T1
  clear h1 hk E1 T1
  go_wp2_with fail
  refine wp_region_still_tail 5 (by kernel_rfl) (by kernel_rfl) ?_
  simp only [List.take_succ_cons, List.take_zero, List.drop_succ_cons, List.drop_zero]
  change wpStill _ _ (World.drew _) _ _ _
  repeat still_step
  still_call ((int32_any 5 (by decide) (by decide) _).mono (by rintro e w ⟨rfl, rfl⟩; exact ⟨rfl, rfl⟩))
  repeat still_step
  refine wpStill_nil ?_
  change wpList _ _ _ _ _ (World.drew _)
  obtain ⟨D, hD, hE6⟩ := HE1.out.row
  have hE6 : Elems (LiveA K { V with stk := s } w1.drew) w1.drew D ((E ++ [a1, a2, a3, a4, a5]) ++ [a6]) := hE6.cast rfl (by first | rfl | simp)
  obtain ⟨D5, x6, rfl, hE5, e6⟩ := hE6.last
  have F6 := Lib.hid e6
  obtain ⟨p6, k6, rfl, _⟩ := e6
  have hE5 : Elems (LiveA K { V with stk := s } w1.drew) w1.drew D5 ((E ++ [a1, a2, a3, a4]) ++ [a5]) := hE5.cast rfl (by first | rfl | simp)
  obtain ⟨D4, x5, rfl, hE4, e5⟩ := hE5.last
  have F5 := Lib.hid e5
  obtain ⟨p5, k5, rfl, _⟩ := e5
  have hE4 : Elems (LiveA K { V with stk := s } w1.drew) w1.drew D4 ((E ++ [a1, a2, a3]) ++ [a4]) := hE4.cast rfl (by first | rfl | simp)
  obtain ⟨D3, x4, rfl, hE3, e4⟩ := hE4.last
  have F4 := Lib.hid e4
  obtain ⟨p4, k4, rfl, _⟩ := e4
  have hE3 : Elems (LiveA K { V with stk := s } w1.drew) w1.drew D3 ((E ++ [a1, a2]) ++ [a3]) := hE3.cast rfl (by first | rfl | simp)
  obtain ⟨D2, x3, rfl, hE2, e3⟩ := hE3.last
  have F3 := Lib.hid e3
  obtain ⟨p3, k3, rfl, _⟩ := e3
  have hE2 : Elems (LiveA K { V with stk := s } w1.drew) w1.drew D2 ((E ++ [a1]) ++ [a2]) := hE2.cast rfl (by first | rfl | simp)
  obtain ⟨D1, x2, rfl, hE1, e2⟩ := hE2.last
  have F2 := Lib.hid e2
  obtain ⟨p2, k2, rfl, _⟩ := e2
  have hE1 : Elems (LiveA K { V with stk := s } w1.drew) w1.drew D1 (E ++ [a1]) := hE1.cast rfl (by first | rfl | simp)
  obtain ⟨D0, x1, rfl, hE0, e1⟩ := hE1.last
  have F1 := Lib.hid e1
  obtain ⟨p1, k1, rfl, _⟩ := e1
  have hl' : D0.length ≤ 10000 := by rw [hE0.length]; exact hl1
  have HS := Lib.hid ((HE1.out.stkIn hD).cast (D' := D0 ++ [.slice p1 a1.length k1, .slice p2 a2.length k2, .slice p3 a3.length k3, .slice p4 a4.length k4, .slice p5 a5.length k5, .slice p6 a6.length k6]) (by first | rfl | simp))
  have HE := Lib.hid hE0
  clear hD hE0 hE1 hE2 hE3 hE4 hE5 hE6
  go_wp2_with fail
  refine (pick_5 (o := 23) HS.out hl').mono ?_
  rintro e w2 ⟨rfl, h2⟩
  have hk := (h2.choose_spec.2.2.2.2).mono (M' := LiveA K { V with stk := s } w1.drew) (fun _ h => h.s)
  have HP := Lib.hid (HE1.out.post0 (E' := (E ++ [a1, a2, a3, a4, a5, a6, a1])) h2 (Elems.cast (.snoc (.snoc (.snoc (.snoc (.snoc (.snoc (.snoc (HE.out.kept hk (fun _ h => h)) (F1.out.kept hk)) (F2.out.kept hk)) (F3.out.kept hk)) (F4.out.kept hk)) (F5.out.kept hk)) (F6.out.kept hk)) (F1.out.kept hk)) (by first | rfl | simp) (by first | rfl | simp)))
  clear h2 hk
  go_wp2_with fail
  go_ret
  obtain ⟨s2, E2, T2⟩ := HP.out
  exact ⟨rfl, s2, V.alt, E2, HT1.out.trans (T1d.out.trans T2)⟩

set_option maxHeartbeats 1000000 in
set_option maxRecDepth 100000 in
theorem h_roll_0 {K : EngK} {V : EngW} {E A : List (List Int)} {a1 : List Int} {bs : List Int} {w : World} (h : EngA K V (E ++ [a1, bs]) A w) (hn : Small bs 0) (hl : E.length ≤ 10000) (p : Addr) (dat : Value) :
    Calls Tryz.prog 112 #[.pointer (some p), dat, .pointer (some ⟨K.e, 0, none⟩)] w (HandPostA K V (E ++ [a1]) A w) := by
  obtain ⟨D, hD, hE⟩ := h.row
  have hEt : Elems (LiveA K V w) w D ((E ++ [a1]) ++ [bs]) := hE.cast rfl (by first | rfl | simp)
  obtain ⟨D1, x, rfl, hE1, e1⟩ := hEt.last
  have F := Lib.hid e1
  obtain ⟨p0, k0, rfl, _⟩ := e1
  have hl' : D1.length ≤ 1000000 := by rw [hE1.length]; simp; omega
  have HS := Lib.hid (h.stkIn hD)
  have H := Lib.hid h
  have HE := Lib.hid hE1
  have hl1 := hl
  clear h hD hE hEt hE1
  go_enter Tryz.func112, Tryz.ntmps112
  go_wp2_with fail
  refine (popInt_any (o := 23) HS.out hl' rfl F.out (fun _ h => h.s) hn).mono ?_
  rintro e w1 ⟨rfl, h1⟩
  have hk := (h1.choose_spec.2.2.2.2).mono (M' := LiveA K V w) (fun _ h => h.s)
  obtain ⟨s, E1, T1⟩ := H.out.post0 (E' := E ++ [a1]) h1 (HE.out.kept hk (fun _ h => h))
  have T1d := Lib.hid E1.drew.2
  have E1 := E1.drew.1
  have T1 := T1
  have HE1 := Lib.hid E1
  have HT1 := Lib.hid T1
  clear h1 hk E1 T1
  go_wp2_with fail
  refine wp_region_still_tail 5 (by kernel_rfl) (by kernel_rfl) ?_
  simp only [List.take_succ_cons, List.take_zero, List.drop_succ_cons, List.drop_zero]
  change wpStill _ _ (World.drew _) _ _ _
  repeat still_step
  still_call ((int32_any 0 (by decide) (by decide) _).mono (by rintro e w ⟨rfl, rfl⟩; exact ⟨rfl, rfl⟩))
  repeat still_step
  refine wpStill_nil ?_
  change wpList _ _ _ _ _ (World.drew _)
  obtain ⟨D, hD, hE1⟩ := HE1.out.row
  have hE1 : Elems (LiveA K { V with stk := s } w1.drew) w1.drew D (E ++ [a1]) := hE1.cast rfl (by first | rfl | simp)
  obtain ⟨D0, x1, rfl, hE0, e1⟩ := hE1.last
  have F1 := Lib.hid e1
  obtain ⟨p1, k1, rfl, _⟩ := e1
  have hl' : D0.length ≤ 10000 := by rw [hE0.length]; exact hl1
  have HS := Lib.hid ((HE1.out.stkIn hD).cast (D' := D0 ++ [.slice p1 a1.length k1]) (by first | rfl | simp))
  have HE := Lib.hid hE0
  clear hD hE0 hE1
  go_wp2_with fail
  refine (roll_0 (o := 23) HS.out hl').mono ?_
  rintro e w2 ⟨rfl, h2⟩
  have hk := (h2.choose_spec.2.2.2.2).mono (M' := LiveA K { V with stk := s } w1.drew) (fun _ h => h.s)
  have HP := Lib.hid (HE1.out.post0 (E' := (E ++ [a1])) h2 (Elems.cast (.snoc (HE.out.kept hk (fun _ h => h)) (F1.out.kept hk)) (by first | rfl | simp) (by first | rfl | simp)))
  clear h2 hk
  go_wp2_with fail
  go_ret
  obtain ⟨s2, E2, T2⟩ := HP.out
  exact ⟨rfl, s2, V.alt, E2, HT1.out.trans (T1d.out.trans T2)⟩

set_option maxHeartbeats 1000000 in
set_option maxRecDepth 100000 in
theorem h_roll_1 {K : EngK} {V : EngW} {E A : List (List Int)} {a1 a2 : List Int} {bs : List Int} {w : World} (h : EngA K V (E ++ [a1, a2, bs]) A w) (hn : Small bs 1) (hl : E.length ≤ 10000) (p : Addr) (dat : Value) :
    Calls Tryz.prog 112 #[.pointer (some p), dat, .pointer (some ⟨K.e, 0, none⟩)] w (HandPostA K V (E ++ [a2, a1]) A w) := by
  obtain ⟨D, hD, hE⟩ := h.row
  have hEt : Elems (LiveA K V w) w D ((E ++ [a1, a2]) ++ [bs]) := hE.cast rfl (by first | rfl | simp)
  obtain ⟨D1, x, rfl, hE1, e1⟩ := hEt.last
  have F := Lib.hid e1
  obtain ⟨p0, k0, rfl, _⟩ := e1
  have hl' : D1.length ≤ 1000000 := by rw [hE1.length]; simp; omega
  have HS := Lib.hid (h.stkIn hD)
  have H := Lib.hid h
  have HE := Lib.hid hE1
  have hl1 := hl
  clear h hD hE hEt hE1
  go_enter Tryz.func112, Tryz.ntmps112
  go_wp2_with fail
  refine (popInt_any (o := 23) HS.out hl' rfl F.out (fun _ h => h.s) hn).mono ?_
  rintro e w1 ⟨rfl, h1⟩
  have hk := (h1.choose_spec.2.2.2.2).mono (M' := LiveA K V w) (fun _ h => h.s)
  obtain ⟨s, E1, T1⟩ := H.out.post0 (E' := E ++ [a1, a2]) h1 (HE.out.kept hk (fun _ h => h))
  have T1d := Lib.hid E1.drew.2
  have E1 := E1.drew.1
  have T1 := T1
  have HE1 := Lib.hid E1
  have HT1 := Lib.hid T1
  clear h1 hk E1 T1
  go_wp2_with fail
  refine wp_region_still_tail 5 (by kernel_rfl) (by kernel_rfl) ?_
  simp only [List.take_succ_cons, List.take_zero, List.drop_succ_cons, List.drop_zero]
  change wpStill _ _ (World.drew _) _ _ _
  repeat still_step
  still_call ((int32_any 1 (by decide) (by decide) _).mono (by rintro e w ⟨rfl, rfl⟩; exact ⟨rfl, rfl⟩))
  repeat still_step
  refine wpStill_nil ?_
  change wpList _ _ _ _ _ (World.drew _)
  obtain ⟨D, hD, hE2⟩ := HE1.out.row
  have hE2 : Elems (LiveA K { V with stk := s } w1.drew) w1.drew D ((E ++ [a1]) ++ [a2]) := hE2.cast rfl (by first | rfl | simp)
  obtain ⟨D1, x2, rfl, hE1, e2⟩ := hE2.last
  have F2 := Lib.hid e2
  obtain ⟨p2, k2, rfl, _⟩ := e2
  have hE1 : Elems (LiveA K { V with stk := s } w1.drew) w1.drew D1 (E ++ [a1]) := hE1.cast rfl (by first | rfl | simp)
  obtain ⟨D0, x1, rfl, hE0, e1⟩ := hE1.last
  have F1 := Lib.hid e1
  obtain ⟨p1, k1, rfl, _⟩ := e1
  have hl' : D0.length ≤ 10000 := by rw [hE0.length]; exact hl1
  have HS := Lib.hid ((HE1.out.stkIn hD).cast (D' := D0 ++ [.slice p1 a1.length k1, .slice p2 a2.length k2]) (by first | rfl | simp))
  have HE := Lib.hid hE0
  clear hD hE0 hE1 hE2
  go_wp2_with fail
  refine (roll_1 (o := 23) HS.out hl').mono ?_
  rintro e w2 ⟨rfl, h2⟩
  have hk := (h2.choose_spec.2.2.2.2).mono (M' := LiveA K { V with stk := s } w1.drew) (fun _ h => h.s)
  have HP := Lib.hid (HE1.out.post0 (E' := (E ++ [a2, a1])) h2 (Elems.cast (.snoc (.snoc (HE.out.kept hk (fun _ h => h)) (F2.out.kept hk)) (F1.out.kept hk)) (by first | rfl | simp) (by first | rfl | simp)))
  clear h2 hk
  go_wp2_with fail
  go_ret
  obtain ⟨s2, E2, T2⟩ := HP.out
  exact ⟨rfl, s2, V.alt, E2, HT1.out.trans (T1d.out.trans T2)⟩

set_option maxHeartbeats 1000000 in
set_option maxRecDepth 100000 in
theorem h_roll_2 {K : EngK} {V : EngW} {E A : List (List Int)} {a1 a2 a3 : List Int} {bs : List Int} {w : World} (h : EngA K V (E ++ [a1, a2, a3, bs]) A w) (hn : Small bs 2) (hl : E.length ≤ 10000) (p : Addr) (dat : Value) :
    Calls Tryz.prog 112 #[.pointer (some p), dat, .pointer (some ⟨K.e, 0, none⟩)] w (HandPostA K V (E ++ [a2, a3, a1]) A w) := by
  obtain ⟨D, hD, hE⟩ := h.row
  have hEt : Elems (LiveA K V w) w D ((E ++ [a1, a2, a3]) ++ [bs]) := hE.cast rfl (by first | rfl | simp)
  obtain ⟨D1, x, rfl, hE1, e1⟩ := hEt.last
  have F := Lib.hid e1
  obtain ⟨p0, k0, rfl, _⟩ := e1
  have hl' : D1.length ≤ 1000000 := by rw [hE1.length]; simp; omega
  have HS := Lib.hid (h.stkIn hD)
  have H := Lib.hid h
  have HE := Lib.hid hE1
  have hl1 := hl
  clear h hD hE hEt hE1
  go_enter Tryz.func112, Tryz.ntmps112
  go_wp2_with fail
  refine (popInt_any (o := 23) HS.out hl' rfl F.out (fun _ h => h.s) hn).mono ?_
  rintro e w1 ⟨rfl, h1⟩
  have hk := (h1.choose_spec.2.2.2.2).mono (M' := LiveA K V w) (fun _ h => h.s)
  obtain ⟨s, E1, T1⟩ := H.out.post0 (E' := E ++ [a1, a2, a3]) h1 (HE.out.kept hk (fun _ h => h))
  have T1d := Lib.hid E1.drew.2
  have E1 := E1.drew.1
  have T1 := T1
  have HE1 := Lib.hid E1
  have HT1 := Lib.hid T1
  clear h1 hk E1 T1
  go_wp2_with fail
  refine wp_region_still_tail 5 (by kernel_rfl) (by kernel_rfl) ?_
  simp only [List.take_succ_cons, List.take_zero, List.drop_succ_cons, List.drop_zero]
  change wpStill _ _ (World.drew _) _ _ _
  repeat still_step
  still_call ((int32_any 2 (by decide) (by decide) _).mono (by rintro e w ⟨rfl, rfl⟩; exact ⟨rfl, rfl⟩))
  repeat still_step
  refine wpStill_nil ?_
  change wpList _ _ _ _ _ (World.drew _)
  obtain ⟨D, hD, hE3⟩ := HE1.out.row
  have hE3 : Elems (LiveA K { V with stk := s } w1.drew) w1.drew D ((E ++ [a1, a2]) ++ [a3]) := hE3.cast rfl (by first | rfl | simp)
  obtain ⟨D2, x3, rfl, hE2, e3⟩ := hE3.last
  have F3 := Lib.hid e3
  obtain ⟨p3, k3, rfl, _⟩ := e3
  have hE2 : Elems (LiveA K { V with stk := s } w1.drew) w1.drew D2 ((E ++ [a1]) ++ [a2]) := hE2.cast rfl (by first | rfl | simp)
  obtain ⟨D1, x2, rfl, hE1, e2⟩ := hE2.last
  have F2 := Lib.hid e2
  obtain ⟨p2, k2, rfl, _⟩ := e2
  have hE1 : Elems (LiveA K { V with stk := s } w1.drew) w1.drew D1 (E ++ [a1]) := hE1.cast rfl (by first | rfl | simp)
  obtain ⟨D0, x1, rfl, hE0, e1⟩ := hE1.last
  have F1 := Lib.hid e1
  obtain ⟨p1, k1, rfl, _⟩ := e1
  have hl' : D0.length ≤ 10000 := by rw [hE0.length]; exact hl1
  have HS := Lib.hid ((HE1.out.stkIn hD).cast (D' := D0 ++ [.slice p1 a1.length k1, .slice p2 a2.length k2, .slice p3 a3.length k3]) (by first | rfl | simp))
  have HE := Lib.hid hE0
  clear hD hE0 hE1 hE2 hE3
  go_wp2_with fail
  refine (roll_2 (o := 23) HS.out hl').mono ?_
  rintro e w2 ⟨rfl, h2⟩
  have hk := (h2.choose_spec.2.2.2.2).mono (M' := LiveA K { V with stk := s } w1.drew) (fun _ h => h.s)
  have HP := Lib.hid (HE1.out.post0 (E' := (E ++ [a2, a3, a1])) h2 (Elems.cast (.snoc (.snoc (.snoc (HE.out.kept hk (fun _ h => h)) (F2.out.kept hk)) (F3.out.kept hk)) (F1.out.kept hk)) (by first | rfl | simp) (by first | rfl | simp)))
  clear h2 hk
  go_wp2_with fail
  go_ret
  obtain ⟨s2, E2, T2⟩ := HP.out
  exact ⟨rfl, s2, V.alt, E2, HT1.out.trans (T1d.out.trans T2)⟩

end Go.Proofs.YtaohcejbjeaemaaGreatDoor

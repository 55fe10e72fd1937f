import Derived.Test.YtaohcejbjeaemaaGreatDoorJStkM
import Derived.Test.YtaohcejbjeaemaaGreatDoorJCheckANum
namespace Go.Proofs.YtaohcejbjeaemaaGreatDoor
open Go Go.RowKit

/-- What an opcode's function leaves. -/
def HandPostA (K : EngK) (V : EngW) (E' A' : List (List Int)) (w : World) (e : Ending) (w' : World) : Prop :=
  e = .returned .nilIface ∧ ∃ s t, EngA K { V with stk := s, alt := t } E' A' w' ∧ ToA K V w { V with stk := s, alt := t } w'
theorem HandPostA.of {K : EngK} {V : EngW} {E' A' : List (List Int)} {w w' : World} (h : ∃ s, EngA K { V with stk := s } E' A' w' ∧ ToA K V w { V with stk := s } w') : HandPostA K V E' A' w (.returned .nilIface) w' := by
  obtain ⟨s, h1, h2⟩ := h
  exact ⟨rfl, s, V.alt, h1, h2⟩
theorem Elems.cast {M : Nat → Prop} {w : World} {D D' : List Value} {E E' : List (List Int)} (h : Elems M w D E) (e1 : D = D') (e2 : E = E') : Elems M w D' E' := e1 ▸ e2 ▸ h

set_option maxHeartbeats 1000000 in
set_option maxRecDepth 100000 in
theorem h_swap {K : EngK} {V : EngW} {E A : List (List Int)} {a1 a2 : List Int} {w : World} (h : EngA K V (E ++ [a1, a2]) A w) (hl : E.length ≤ 10000) (p : Addr) (dat : Value) :
    Calls Tryz.prog 114 #[.pointer (some p), dat, .pointer (some ⟨K.e, 0, none⟩)] w (HandPostA K V (E ++ [a2, a1]) A w) := by
  obtain ⟨D, hD, hE2⟩ := h.row
  have hE2 : Elems (LiveA K V w) w D ((E ++ [a1]) ++ [a2]) := hE2.cast rfl (by first | rfl | simp)
  obtain ⟨D1, x2, rfl, hE1, e2⟩ := hE2.last
  have F2 := Lib.hid e2
  obtain ⟨p2, k2, rfl, _⟩ := e2
  have hE1 : Elems (LiveA K V w) w D1 (E ++ [a1]) := hE1.cast rfl (by first | rfl | simp)
  obtain ⟨D0, x1, rfl, hE0, e1⟩ := hE1.last
  have F1 := Lib.hid e1
  obtain ⟨p1, k1, rfl, _⟩ := e1
  have hl' : D0.length ≤ 10000 := by rw [hE0.length]; exact hl
  have HS := Lib.hid ((h.stkIn hD).cast (D' := D0 ++ [.slice p1 a1.length k1, .slice p2 a2.length k2]) (by first | rfl | simp))
  have H := Lib.hid h
  have HE := Lib.hid hE0
  clear h hD hE0 hE1 hE2
  go_enter Tryz.func114, Tryz.ntmps114
  go_wp2_with fail
  refine (swap_1 (o := 23) HS.out hl').mono ?_
  rintro e w1 ⟨rfl, h1⟩
  have hk := (h1.choose_spec.2.2.2.2).mono (M' := LiveA K V w) (fun _ h => h.s)
  have HP := Lib.hid (H.out.post0 (E' := (E ++ [a2, a1])) h1 (Elems.cast (.snoc (.snoc (HE.out.kept hk (fun _ h => h)) (F2.out.kept hk)) (F1.out.kept hk)) (by first | rfl | simp) (by first | rfl | simp)))
  clear h1 hk
  go_wp2_with fail
  go_ret
  exact HandPostA.of HP.out

set_option maxHeartbeats 1000000 in
set_option maxRecDepth 100000 in
theorem h_2swap {K : EngK} {V : EngW} {E A : List (List Int)} {a1 a2 a3 a4 : List Int} {w : World} (h : EngA K V (E ++ [a1, a2, a3, a4]) A w) (hl : E.length ≤ 10000) (p : Addr) (dat : Value) :
    Calls Tryz.prog 104 #[.pointer (some p), dat, .pointer (some ⟨K.e, 0, none⟩)] w (HandPostA K V (E ++ [a3, a4, a1, a2]) A w) := by
  obtain ⟨D, hD, hE4⟩ := h.row
  have hE4 : Elems (LiveA K V w) w D ((E ++ [a1, a2, a3]) ++ [a4]) := hE4.cast rfl (by first | rfl | simp)
  obtain ⟨D3, x4, rfl, hE3, e4⟩ := hE4.last
  have F4 := Lib.hid e4
  obtain ⟨p4, k4, rfl, _⟩ := e4
  have hE3 : Elems (LiveA K V w) w D3 ((E ++ [a1, a2]) ++ [a3]) := hE3.cast rfl (by first | rfl | simp)
  obtain ⟨D2, x3, rfl, hE2, e3⟩ := hE3.last
  have F3 := Lib.hid e3
  obtain ⟨p3, k3, rfl, _⟩ := e3
  have hE2 : Elems (LiveA K V w) w D2 ((E ++ [a1]) ++ [a2]) := hE2.cast rfl (by first | rfl | simp)
  obtain ⟨D1, x2, rfl, hE1, e2⟩ := hE2.last
  have F2 := Lib.hid e2
  obtain ⟨p2, k2, rfl, _⟩ := e2
  have hE1 : Elems (LiveA K V w) w D1 (E ++ [a1]) := hE1.cast rfl (by first | rfl | simp)
  obtain ⟨D0, x1, rfl, hE0, e1⟩ := hE1.last
  have F1 := Lib.hid e1
  obtain ⟨p1, k1, rfl, _⟩ := e1
  have hl' : D0.length ≤ 10000 := by rw [hE0.length]; exact hl
  have HS := Lib.hid ((h.stkIn hD).cast (D' := D0 ++ [.slice p1 a1.length k1, .slice p2 a2.length k2, .slice p3 a3.length k3, .slice p4 a4.length k4]) (by first | rfl | simp))
  have H := Lib.hid h
  have HE := Lib.hid hE0
  clear h hD hE0 hE1 hE2 hE3 hE4
  go_enter Tryz.func104, Tryz.ntmps104
  go_wp2_with fail
  refine (swap_2 (o := 23) HS.out hl').mono ?_
  rintro e w1 ⟨rfl, h1⟩
  have hk := (h1.choose_spec.2.2.2.2).mono (M' := LiveA K V w) (fun _ h => h.s)
  have HP := Lib.hid (H.out.post0 (E' := (E ++ [a3, a4, a1, a2])) h1 (Elems.cast (.snoc (.snoc (.snoc (.snoc (HE.out.kept hk (fun _ h => h)) (F3.out.kept hk)) (F4.out.kept hk)) (F1.out.kept hk)) (F2.out.kept hk)) (by first | rfl | simp) (by first | rfl | simp)))
  clear h1 hk
  go_wp2_with fail
  go_ret
  exact HandPostA.of HP.out

set_option maxHeartbeats 1000000 in
set_option maxRecDepth 100000 in
theorem h_rot {K : EngK} {V : EngW} {E A : List (List Int)} {a1 a2 a3 : List Int} {w : World} (h : EngA K V (E ++ [a1, a2, a3]) A w) (hl : E.length ≤ 10000) (p : Addr) (dat : Value) :
    Calls Tryz.prog 113 #[.pointer (some p), dat, .pointer (some ⟨K.e, 0, none⟩)] w (HandPostA K V (E ++ [a2, a3, a1]) A w) := by
  obtain ⟨D, hD, hE3⟩ := h.row
  have hE3 : Elems (LiveA K V w) w D ((E ++ [a1, a2]) ++ [a3]) := hE3.cast rfl (by first | rfl | simp)
  obtain ⟨D2, x3, rfl, hE2, e3⟩ := hE3.last
  have F3 := Lib.hid e3
  obtain ⟨p3, k3, rfl, _⟩ := e3
  have hE2 : Elems (LiveA K V w) w D2 ((E ++ [a1]) ++ [a2]) := hE2.cast rfl (by first | rfl | simp)
  obtain ⟨D1, x2, rfl, hE1, e2⟩ := hE2.last
  have F2 := Lib.hid e2
  obtain ⟨p2, k2, rfl, _⟩ := e2
  have hE1 : Elems (LiveA K V w) w D1 (E ++ [a1]) := hE1.cast rfl (by first | rfl | simp)
  obtain ⟨D0, x1, rfl, hE0, e1⟩ := hE1.last
  have F1 := Lib.hid e1
  obtain ⟨p1, k1, rfl, _⟩ := e1
  have hl' : D0.length ≤ 10000 := by rw [hE0.length]; exact hl
  have HS := Lib.hid ((h.stkIn hD).cast (D' := D0 ++ [.slice p1 a1.length k1, .slice p2 a2.length k2, .slice p3 a3.length k3]) (by first | rfl | simp))
  have H := Lib.hid h
  have HE := Lib.hid hE0
  clear h hD hE0 hE1 hE2 hE3
  go_enter Tryz.func113, Tryz.ntmps113
  go_wp2_with fail
  refine (rot_1 (o := 23) HS.out hl').mono ?_
  rintro e w1 ⟨rfl, h1⟩
  have hk := (h1.choose_spec.2.2.2.2).mono (M' := LiveA K V w) (fun _ h => h.s)
  have HP := Lib.hid (H.out.post0 (E' := (E ++ [a2, a3, a1])) h1 (Elems.cast (.snoc (.snoc (.snoc (HE.out.kept hk (fun _ h => h)) (F2.out.kept hk)) (F3.out.kept hk)) (F1.out.kept hk)) (by first | rfl | simp) (by first | rfl | simp)))
  clear h1 hk
  go_wp2_with fail
  go_ret
  exact HandPostA.of HP.out

set_option maxHeartbeats 1000000 in
set_option maxRecDepth 100000 in
theorem h_2rot {K : EngK} {V : EngW} {E A : List (List Int)} {a1 a2 a3 a4 a5 a6 : List Int} {w : World} (h : EngA K V (E ++ [a1, a2, a3, a4, a5, a6]) A w) (hl : E.length ≤ 10000) (p : Addr) (dat : Value) :
    Calls Tryz.prog 103 #[.pointer (some p), dat, .pointer (some ⟨K.e, 0, none⟩)] w (HandPostA K V (E ++ [a3, a4, a5, a6, a1, a2]) A w) := by
  obtain ⟨D, hD, hE6⟩ := h.row
  have hE6 : Elems (LiveA K V w) w D ((E ++ [a1, a2, a3, a4, a5]) ++ [a6]) := hE6.cast rfl (by first | rfl | simp)
  obtain ⟨D5, x6, rfl, hE5, e6⟩ := hE6.last
  have F6 := Lib.hid e6
  obtain ⟨p6, k6, rfl, _⟩ := e6
  have hE5 : Elems (LiveA K V w) w D5 ((E ++ [a1, a2, a3, a4]) ++ [a5]) := hE5.cast rfl (by first | rfl | simp)
  obtain ⟨D4, x5, rfl, hE4, e5⟩ := hE5.last
  have F5 := Lib.hid e5
  obtain ⟨p5, k5, rfl, _⟩ := e5
  have hE4 : Elems (LiveA K V w) w D4 ((E ++ [a1, a2, a3]) ++ [a4]) := hE4.cast rfl (by first | rfl | simp)
  obtain ⟨D3, x4, rfl, hE3, e4⟩ := hE4.last
  have F4 := Lib.hid e4
  obtain ⟨p4, k4, rfl, _⟩ := e4
  have hE3 : Elems (LiveA K V w) w D3 ((E ++ [a1, a2]) ++ [a3]) := hE3.cast rfl (by first | rfl | simp)
  obtain ⟨D2, x3, rfl, hE2, e3⟩ := hE3.last
  have F3 := Lib.hid e3
  obtain ⟨p3, k3, rfl, _⟩ := e3
  have hE2 : Elems (LiveA K V w) w D2 ((E ++ [a1]) ++ [a2]) := hE2.cast rfl (by first | rfl | simp)
  obtain ⟨D1, x2, rfl, hE1, e2⟩ := hE2.last
  have F2 := Lib.hid e2
  obtain ⟨p2, k2, rfl, _⟩ := e2
  have hE1 : Elems (LiveA K V w) w D1 (E ++ [a1]) := hE1.cast rfl (by first | rfl | simp)
  obtain ⟨D0, x1, rfl, hE0, e1⟩ := hE1.last
  have F1 := Lib.hid e1
  obtain ⟨p1, k1, rfl, _⟩ := e1
  have hl' : D0.length ≤ 10000 := by rw [hE0.length]; exact hl
  have HS := Lib.hid ((h.stkIn hD).cast (D' := D0 ++ [.slice p1 a1.length k1, .slice p2 a2.length k2, .slice p3 a3.length k3, .slice p4 a4.length k4, .slice p5 a5.length k5, .slice p6 a6.length k6]) (by first | rfl | simp))
  have H := Lib.hid h
  have HE := Lib.hid hE0
  clear h hD hE0 hE1 hE2 hE3 hE4 hE5 hE6
  go_enter Tryz.func103, Tryz.ntmps103
  go_wp2_with fail
  refine (rot_2 (o := 23) HS.out hl').mono ?_
  rintro e w1 ⟨rfl, h1⟩
  have hk := (h1.choose_spec.2.2.2.2).mono (M' := LiveA K V w) (fun _ h => h.s)
  have HP := Lib.hid (H.out.post0 (E' := (E ++ [a3, a4, a5, a6, a1, a2])) h1 (Elems.cast (.snoc (.snoc (.snoc (.snoc (.snoc (.snoc (HE.out.kept hk (fun _ h => h)) (F3.out.kept hk)) (F4.out.kept hk)) (F5.out.kept hk)) (F6.out.kept hk)) (F1.out.kept hk)) (F2.out.kept hk)) (by first | rfl | simp) (by first | rfl | simp)))
  clear h1 hk
  go_wp2_with fail
  go_ret
  exact HandPostA.of HP.out

set_option maxHeartbeats 1000000 in
set_option maxRecDepth 100000 in
theorem h_dup {K : EngK} {V : EngW} {E A : List (List Int)} {a1 : List Int} {w : World} (h : EngA K V (E ++ [a1]) A w) (hl : E.length ≤ 10000) (p : Addr) (dat : Value) :
    Calls Tryz.prog 108 #[.pointer (some p), dat, .pointer (some ⟨K.e, 0, none⟩)] w (HandPostA K V (E ++ [a1, a1]) A w) := by
  obtain ⟨D, hD, hE1⟩ := h.row
  have hE1 : Elems (LiveA K V w) w D (E ++ [a1]) := hE1.cast rfl (by first | rfl | simp)
  obtain ⟨D0, x1, rfl, hE0, e1⟩ := hE1.last
  have F1 := Lib.hid e1
  obtain ⟨p1, k1, rfl, _⟩ := e1
  have hl' : D0.length ≤ 10000 := by rw [hE0.length]; exact hl
  have HS := Lib.hid ((h.stkIn hD).cast (D' := D0 ++ [.slice p1 a1.length k1]) (by first | rfl | simp))
  have H := Lib.hid h
  have HE := Lib.hid hE0
  clear h hD hE0 hE1
  go_enter Tryz.func108, Tryz.ntmps108
  go_wp2_with fail
  refine (dup_1 (o := 23) HS.out hl').mono ?_
  rintro e w1 ⟨rfl, h1⟩
  have hk := (h1.choose_spec.2.2.2.2).mono (M' := LiveA K V w) (fun _ h => h.s)
  have HP := Lib.hid (H.out.post0 (E' := (E ++ [a1, a1])) h1 (Elems.cast (.snoc (.snoc (HE.out.kept hk (fun _ h => h)) (F1.out.kept hk)) (F1.out.kept hk)) (by first | rfl | simp) (by first | rfl | simp)))
  clear h1 hk
  go_wp2_with fail
  go_ret
  exact HandPostA.of HP.out

set_option maxHeartbeats 1000000 in
set_option maxRecDepth 100000 in
theorem h_2dup {K : EngK} {V : EngW} {E A : List (List Int)} {a1 a2 : List Int} {w : World} (h : EngA K V (E ++ [a1, a2]) A w) (hl : E.length ≤ 10000) (p : Addr) (dat : Value) :
    Calls Tryz.prog 100 #[.pointer (some p), dat, .pointer (some ⟨K.e, 0, none⟩)] w (HandPostA K V (E ++ [a1, a2, a1, a2]) A w) := by
  obtain ⟨D, hD, hE2⟩ := h.row
  have hE2 : Elems (LiveA K V w) w D ((E ++ [a1]) ++ [a2]) := hE2.cast rfl (by first | rfl | simp)
  obtain ⟨D1, x2, rfl, hE1, e2⟩ := hE2.last
  have F2 := Lib.hid e2
  obtain ⟨p2, k2, rfl, _⟩ := e2
  have hE1 : Elems (LiveA K V w) w D1 (E ++ [a1]) := hE1.cast rfl (by first | rfl | simp)
  obtain ⟨D0, x1, rfl, hE0, e1⟩ := hE1.last
  have F1 := Lib.hid e1
  obtain ⟨p1, k1, rfl, _⟩ := e1
  have hl' : D0.length ≤ 10000 := by rw [hE0.length]; exact hl
  have HS := Lib.hid ((h.stkIn hD).cast (D' := D0 ++ [.slice p1 a1.length k1, .slice p2 a2.length k2]) (by first | rfl | simp))
  have H := Lib.hid h
  have HE := Lib.hid hE0
  clear h hD hE0 hE1 hE2
  go_enter Tryz.func100, Tryz.ntmps100
  go_wp2_with fail
  refine (dup_2 (o := 23) HS.out hl').mono ?_
  rintro e w1 ⟨rfl, h1⟩
  have hk := (h1.choose_spec.2.2.2.2).mono (M' := LiveA K V w) (fun _ h => h.s)
  have HP := Lib.hid (H.out.post0 (E' := (E ++ [a1, a2, a1, a2])) h1 (Elems.cast (.snoc (.snoc (.snoc (.snoc (HE.out.kept hk (fun _ h => h)) (F1.out.kept hk)) (F2.out.kept hk)) (F1.out.kept hk)) (F2.out.kept hk)) (by first | rfl | simp) (by first | rfl | simp)))
  clear h1 hk
  go_wp2_with fail
  go_ret
  exact HandPostA.of HP.out

set_option maxHeartbeats 1000000 in
set_option maxRecDepth 100000 in
theorem h_3dup {K : EngK} {V : EngW} {E A : List (List Int)} {a1 a2 a3 : List Int} {w : World} (h : EngA K V (E ++ [a1, a2, a3]) A w) (hl : E.length ≤ 10000) (p : Addr) (dat : Value) :
    Calls Tryz.prog 101 #[.pointer (some p), dat, .pointer (some ⟨K.e, 0, none⟩)] w (HandPostA K V (E ++ [a1, a2, a3, a1, a2, a3]) A w) := by
  obtain ⟨D, hD, hE3⟩ := h.row
  have hE3 : Elems (LiveA K V w) w D ((E ++ [a1, a2]) ++ [a3]) := hE3.cast rfl (by first | rfl | simp)
  obtain ⟨D2, x3, rfl, hE2, e3⟩ := hE3.last
  have F3 := Lib.hid e3
  obtain ⟨p3, k3, rfl, _⟩ := e3
  have hE2 : Elems (LiveA K V w) w D2 ((E ++ [a1]) ++ [a2]) := hE2.cast rfl (by first | rfl | simp)
  obtain ⟨D1, x2, rfl, hE1, e2⟩ := hE2.last
  have F2 := Lib.hid e2
  obtain ⟨p2, k2, rfl, _⟩ := e2
  have hE1 : Elems (LiveA K V w) w D1 (E ++ [a1]) := hE1.cast rfl (by first | rfl | simp)
  obtain ⟨D0, x1, rfl, hE0, e1⟩ := hE1.last
  have F1 := Lib.hid e1
  obtain ⟨p1, k1, rfl, _⟩ := e1
  have hl' : D0.length ≤ 10000 := by rw [hE0.length]; exact hl
  have HS := Lib.hid ((h.stkIn hD).cast (D' := D0 ++ [.slice p1 a1.length k1, .slice p2 a2.length k2, .slice p3 a3.length k3]) (by first | rfl | simp))
  have H := Lib.hid h
  have HE := Lib.hid hE0
  clear h hD hE0 hE1 hE2 hE3
  go_enter Tryz.func101, Tryz.ntmps101
  go_wp2_with fail
  refine (dup_3 (o := 23) HS.out hl').mono ?_
  rintro e w1 ⟨rfl, h1⟩
  have hk := (h1.choose_spec.2.2.2.2).mono (M' := LiveA K V w) (fun _ h => h.s)
  have HP := Lib.hid (H.out.post0 (E' := (E ++ [a1, a2, a3, a1, a2, a3])) h1 (Elems.cast (.snoc (.snoc (.snoc (.snoc (.snoc (.snoc (HE.out.kept hk (fun _ h => h)) (F1.out.kept hk)) (F2.out.kept hk)) (F3.out.kept hk)) (F1.out.kept hk)) (F2.out.kept hk)) (F3.out.kept hk)) (by first | rfl | simp) (by first | rfl | simp)))
  clear h1 hk
  go_wp2_with fail
  go_ret
  exact HandPostA.of HP.out

set_option maxHeartbeats 1000000 in
set_option maxRecDepth 100000 in
theorem h_over {K : EngK} {V : EngW} {E A : List (List Int)} {a1 a2 : List Int} {w : World} (h : EngA K V (E ++ [a1, a2]) A w) (hl : E.length ≤ 10000) (p : Addr) (dat : Value) :
    Calls Tryz.prog 110 #[.pointer (some p), dat, .pointer (some ⟨K.e, 0, none⟩)] w (HandPostA K V (E ++ [a1, a2, a1]) A w) := by
  obtain ⟨D, hD, hE2⟩ := h.row
  have hE2 : Elems (LiveA K V w) w D ((E ++ [a1]) ++ [a2]) := hE2.cast rfl (by first | rfl | simp)
  obtain ⟨D1, x2, rfl, hE1, e2⟩ := hE2.last
  have F2 := Lib.hid e2
  obtain ⟨p2, k2, rfl, _⟩ := e2
  have hE1 : Elems (LiveA K V w) w D1 (E ++ [a1]) := hE1.cast rfl (by first | rfl | simp)
  obtain ⟨D0, x1, rfl, hE0, e1⟩ := hE1.last
  have F1 := Lib.hid e1
  obtain ⟨p1, k1, rfl, _⟩ := e1
  have hl' : D0.length ≤ 10000 := by rw [hE0.length]; exact hl
  have HS := Lib.hid ((h.stkIn hD).cast (D' := D0 ++ [.slice p1 a1.length k1, .slice p2 a2.length k2]) (by first | rfl | simp))
  have H := Lib.hid h
  have HE := Lib.hid hE0
  clear h hD hE0 hE1 hE2
  go_enter Tryz.func110, Tryz.ntmps110
  go_wp2_with fail
  refine (over_1 (o := 23) HS.out hl').mono ?_
  rintro e w1 ⟨rfl, h1⟩
  have hk := (h1.choose_spec.2.2.2.2).mono (M' := LiveA K V w) (fun _ h => h.s)
  have HP := Lib.hid (H.out.post0 (E' := (E ++ [a1, a2, a1])) h1 (Elems.cast (.snoc (.snoc (.snoc (HE.out.kept hk (fun _ h => h)) (F1.out.kept hk)) (F2.out.kept hk)) (F1.out.kept hk)) (by first | rfl | simp) (by first | rfl | simp)))
  clear h1 hk
  go_wp2_with fail
  go_ret
  exact HandPostA.of HP.out

set_option maxHeartbeats 1000000 in
set_option maxRecDepth 100000 in
theorem h_2over {K : EngK} {V : EngW} {E A : List (List Int)} {a1 a2 a3 a4 : List Int} {w : World} (h : EngA K V (E ++ [a1, a2, a3, a4]) A w) (hl : E.length ≤ 10000) (p : Addr) (dat : Value) :
    Calls Tryz.prog 102 #[.pointer (some p), dat, .pointer (some ⟨K.e, 0, none⟩)] w (HandPostA K V (E ++ [a1, a2, a3, a4, a1, a2]) A w) := by
  obtain ⟨D, hD, hE4⟩ := h.row
  have hE4 : Elems (LiveA K V w) w D ((E ++ [a1, a2, a3]) ++ [a4]) := hE4.cast rfl (by first | rfl | simp)
  obtain ⟨D3, x4, rfl, hE3, e4⟩ := hE4.last
  have F4 := Lib.hid e4
  obtain ⟨p4, k4, rfl, _⟩ := e4
  have hE3 : Elems (LiveA K V w) w D3 ((E ++ [a1, a2]) ++ [a3]) := hE3.cast rfl (by first | rfl | simp)
  obtain ⟨D2, x3, rfl, hE2, e3⟩ := hE3.last
  have F3 := Lib.hid e3
  obtain ⟨p3, k3, rfl, _⟩ := e3
  have hE2 : Elems (LiveA K V w) w D2 ((E ++ [a1]) ++ [a2]) := hE2.cast rfl (by first | rfl | simp)
  obtain ⟨D1, x2, rfl, hE1, e2⟩ := hE2.last
  have F2 := Lib.hid e2
  obtain ⟨p2, k2, rfl, _⟩ := e2
  have hE1 : Elems (LiveA K V w) w D1 (E ++ [a1]) := hE1.cast rfl (by first | rfl | simp)
  obtain ⟨D0, x1, rfl, hE0, e1⟩ := hE1.last
  have F1 := Lib.hid e1
  obtain ⟨p1, k1, rfl, _⟩ := e1
  have hl' : D0.length ≤ 10000 := by rw [hE0.length]; exact hl
  have HS := Lib.hid ((h.stkIn hD).cast (D' := D0 ++ [.slice p1 a1.length k1, .slice p2 a2.length k2, .slice p3 a3.length k3, .slice p4 a4.length k4]) (by first | rfl | simp))
  have H := Lib.hid h
  have HE := Lib.hid hE0
  clear h hD hE0 hE1 hE2 hE3 hE4
  go_enter Tryz.func102, Tryz.ntmps102
  go_wp2_with fail
  refine (over_2 (o := 23) HS.out hl').mono ?_
  rintro e w1 ⟨rfl, h1⟩
  have hk := (h1.choose_spec.2.2.2.2).mono (M' := LiveA K V w) (fun _ h => h.s)
  have HP := Lib.hid (H.out.post0 (E' := (E ++ [a1, a2, a3, a4, a1, a2])) h1 (Elems.cast (.snoc (.snoc (.snoc (.snoc (.snoc (.snoc (HE.out.kept hk (fun _ h => h)) (F1.out.kept hk)) (F2.out.kept hk)) (F3.out.kept hk)) (F4.out.kept hk)) (F1.out.kept hk)) (F2.out.kept hk)) (by first | rfl | simp) (by first | rfl | simp)))
  clear h1 hk
  go_wp2_with fail
  go_ret
  exact HandPostA.of HP.out

set_option maxHeartbeats 1000000 in
set_option maxRecDepth 100000 in
theorem h_2drop {K : EngK} {V : EngW} {E A : List (List Int)} {a1 a2 : List Int} {w : World} (h : EngA K V (E ++ [a1, a2]) A w) (hl : E.length ≤ 10000) (p : Addr) (dat : Value) :
    Calls Tryz.prog 99 #[.pointer (some p), dat, .pointer (some ⟨K.e, 0, none⟩)] w (HandPostA K V E A w) := by
  obtain ⟨D, hD, hE2⟩ := h.row
  have hE2 : Elems (LiveA K V w) w D ((E ++ [a1]) ++ [a2]) := hE2.cast rfl (by first | rfl | simp)
  obtain ⟨D1, x2, rfl, hE1, e2⟩ := hE2.last
  have F2 := Lib.hid e2
  obtain ⟨p2, k2, rfl, _⟩ := e2
  have hE1 : Elems (LiveA K V w) w D1 (E ++ [a1]) := hE1.cast rfl (by first | rfl | simp)
  obtain ⟨D0, x1, rfl, hE0, e1⟩ := hE1.last
  have F1 := Lib.hid e1
  obtain ⟨p1, k1, rfl, _⟩ := e1
  have hl' : D0.length ≤ 10000 := by rw [hE0.length]; exact hl
  have HS := Lib.hid ((h.stkIn hD).cast (D' := D0 ++ [.slice p1 a1.length k1, .slice p2 a2.length k2]) (by first | rfl | simp))
  have H := Lib.hid h
  have HE := Lib.hid hE0
  clear h hD hE0 hE1 hE2
  go_enter Tryz.func99, Tryz.ntmps99
  go_wp2_with fail
  refine (drop_2 (o := 23) HS.out hl').mono ?_
  rintro e w1 ⟨rfl, h1⟩
  have hk := (h1.choose_spec.2.2.2.2).mono (M' := LiveA K V w) (fun _ h => h.s)
  have HP := Lib.hid (H.out.post0 (E' := E) h1 (Elems.cast (HE.out.kept hk (fun _ h => h)) (by first | rfl | simp) (by first | rfl | simp)))
  clear h1 hk
  go_wp2_with fail
  go_ret
  exact HandPostA.of HP.out

set_option maxHeartbeats 1000000 in
set_option maxRecDepth 100000 in
theorem h_nip {K : EngK} {V : EngW} {E A : List (List Int)} {a1 a2 : List Int} {w : World} (h : EngA K V (E ++ [a1, a2]) A w) (hl : E.length ≤ 10000) (p : Addr) (dat : Value) :
    Calls Tryz.prog 109 #[.pointer (some p), dat, .pointer (some ⟨K.e, 0, none⟩)] w (HandPostA K V (E ++ [a2]) A w) := by
  obtain ⟨D, hD, hE2⟩ := h.row
  have hE2 : Elems (LiveA K V w) w D ((E ++ [a1]) ++ [a2]) := hE2.cast rfl (by first | rfl | simp)
  obtain ⟨D1, x2, rfl, hE1, e2⟩ := hE2.last
  have F2 := Lib.hid e2
  obtain ⟨p2, k2, rfl, _⟩ := e2
  have hE1 : Elems (LiveA K V w) w D1 (E ++ [a1]) := hE1.cast rfl (by first | rfl | simp)
  obtain ⟨D0, x1, rfl, hE0, e1⟩ := hE1.last
  have F1 := Lib.hid e1
  obtain ⟨p1, k1, rfl, _⟩ := e1
  have hl' : D0.length ≤ 10000 := by rw [hE0.length]; exact hl
  have HS := Lib.hid ((h.stkIn hD).cast (D' := D0 ++ [.slice p1 a1.length k1, .slice p2 a2.length k2]) (by first | rfl | simp))
  have H := Lib.hid h
  have HE := Lib.hid hE0
  clear h hD hE0 hE1 hE2
  go_enter Tryz.func109, Tryz.ntmps109
  go_wp2_with fail
  refine (nip_1 (o := 23) HS.out hl').mono ?_
  rintro e w1 ⟨rfl, h1⟩
  have hk := (h1.choose_spec.2.2.2.2).mono (M' := LiveA K V w) (fun _ h => h.s)
  have HP := Lib.hid (H.out.post0 (E' := (E ++ [a2])) h1 (Elems.cast (.snoc (HE.out.kept hk (fun _ h => h)) (F2.out.kept hk)) (by first | rfl | simp) (by first | rfl | simp)))
  clear h1 hk
  go_wp2_with fail
  go_ret
  exact HandPostA.of HP.out

set_option maxHeartbeats 1000000 in
set_option maxRecDepth 100000 in
theorem h_tuck {K : EngK} {V : EngW} {E A : List (List Int)} {a1 a2 : List Int} {w : World} (h : EngA K V (E ++ [a1, a2]) A w) (hl : E.length ≤ 10000) (p : Addr) (dat : Value) :
    Calls Tryz.prog 115 #[.pointer (some p), dat, .pointer (some ⟨K.e, 0, none⟩)] w (HandPostA K V (E ++ [a2, a1, a2]) A w) := by
  obtain ⟨D, hD, hE2⟩ := h.row
  have hE2 : Elems (LiveA K V w) w D ((E ++ [a1]) ++ [a2]) := hE2.cast rfl (by first | rfl | simp)
  obtain ⟨D1, x2, rfl, hE1, e2⟩ := hE2.last
  have F2 := Lib.hid e2
  obtain ⟨p2, k2, rfl, _⟩ := e2
  have hE1 : Elems (LiveA K V w) w D1 (E ++ [a1]) := hE1.cast rfl (by first | rfl | simp)
  obtain ⟨D0, x1, rfl, hE0, e1⟩ := hE1.last
  have F1 := Lib.hid e1
  obtain ⟨p1, k1, rfl, _⟩ := e1
  have hl' : D0.length ≤ 10000 := by rw [hE0.length]; exact hl
  have HS := Lib.hid ((h.stkIn hD).cast (D' := D0 ++ [.slice p1 a1.length k1, .slice p2 a2.length k2]) (by first | rfl | simp))
  have H := Lib.hid h
  have HE := Lib.hid hE0
  clear h hD hE0 hE1 hE2
  go_enter Tryz.func115, Tryz.ntmps115
  go_wp2_with fail
  refine (tuck_a (o := 23) HS.out hl').mono ?_
  rintro e w1 ⟨rfl, h1⟩
  have hk := (h1.choose_spec.2.2.2.2).mono (M' := LiveA K V w) (fun _ h => h.s)
  have HP := Lib.hid (H.out.post0 (E' := (E ++ [a2, a1, a2])) h1 (Elems.cast (.snoc (.snoc (.snoc (HE.out.kept hk (fun _ h => h)) (F2.out.kept hk)) (F1.out.kept hk)) (F2.out.kept hk)) (by first | rfl | simp) (by first | rfl | simp)))
  clear h1 hk
  go_wp2_with fail
  go_ret
  exact HandPostA.of HP.out

end Go.Proofs.YtaohcejbjeaemaaGreatDoor

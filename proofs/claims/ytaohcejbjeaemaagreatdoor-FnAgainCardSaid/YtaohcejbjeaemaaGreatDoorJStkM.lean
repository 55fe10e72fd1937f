import Derived.Test.YtaohcejbjeaemaaGreatDoorJStackNipB
namespace Go.Proofs.YtaohcejbjeaemaaGreatDoor
open Go Go.RowKit

/-- The element n places below the top, taken out, wherever it lies. -/
theorem nip_at {M : Nat → Prop} {b o : Nat} {T : TypeId} {c : Array Value} {w : World} {dv : Value} (X Z : List Value) {p : Option Addr} {m k : Nat} (h : StkIn M b o T c w dv (X ++ .slice p m k :: Z)) (hD : X.length + Z.length ≤ 1000000)
    (h1c : ∀ u ∈ Z, u.oneCell' = true) (n : Int) (hn : n = Z.length) :
    Calls Tryz.prog 82 #[.pointer (some ⟨b, o, none⟩), .int .i32 n] w fun e w' => e = .returned (.tuple #[.slice p m k, .nilIface]) ∧ StkPost M b o T c w w' (X ++ Z) := by
  by_cases hZ : Z = []
  · subst hZ
    subst hn
    have := nip_zero h (by simpa using hD)
    simpa using this
  · have hZ' : 0 < Z.length := List.length_pos_iff.2 hZ
    by_cases hX : X = []
    · subst hX
      exact nip_bottom h (by simpa using hD) hZ' h1c n hn
    · exact nip_mid h hD (List.length_pos_iff.2 hX) hZ' h1c n hn

/-- The element n places below the top, looked at. -/
theorem peek_at {M : Nat → Prop} {b o : Nat} {T : TypeId} {c : Array Value} {w : World} {dv : Value} (X Z : List Value) {p : Option Addr} {m k : Nat} (h : StkIn M b o T c w dv (X ++ .slice p m k :: Z)) (hD : X.length + Z.length ≤ 100000) (n : Int) (hn : n = Z.length) :
    Calls Tryz.prog 51 #[.pointer (some ⟨b, o, none⟩), .int .i32 n] w fun e w' => e = .returned (.tuple #[.slice p m k, .nilIface]) ∧ w = w' := by
  rcases h.row.form with ⟨_, h0⟩ | ⟨g, cap, cur, rfl, hg, h1, h2, h3, h4⟩
  · simp at h0
  have hlen : (X ++ .slice p m k :: Z).length = X.length + Z.length + 1 := by simp; omega
  have hc : w.cell? ⟨b, o, none⟩ = some (.slice (some ⟨g, 0, none⟩) (X ++ .slice p m k :: Z).length cap) := by rw [cell_at h.blk, h.cell]
  refine peek_any hc (by omega) n Z.length hn (by omega) (Row.cellAt hg h4 _ _ ?_)
  rw [hlen, show X.length + Z.length + 1 - Z.length - 1 = X.length by omega]
  simp

theorem StkPost.cast {M : Nat → Prop} {b o : Nat} {T : TypeId} {c : Array Value} {w w' : World} {D D' : List Value} (h : StkPost M b o T c w w' D) (e : D = D') : StkPost M b o T c w w' D' := e ▸ h
theorem StkIn.cast {M : Nat → Prop} {b o : Nat} {T : TypeId} {c : Array Value} {w : World} {dv : Value} {D D' : List Value} (h : StkIn M b o T c w dv D) (e : D = D') : StkIn M b o T c w dv D' := e ▸ h

theorem StkIn.next {M : Nat → Prop} {b o : Nat} {T : TypeId} {c : Array Value} {w w' w'' : World} {dv : Value} {D D'' : List Value} (h : StkIn M b o T (c.setIfInBounds o dv) w' dv D) (k : Kept M w w') (p : StkPost M b o T (c.setIfInBounds o dv) w' w'' D'') :
    ∃ dv'', StkIn M b o T (c.setIfInBounds o dv'') w'' dv'' D'' ∧ Kept M w w'' := by
  obtain ⟨dv'', h1, h2⟩ := p.next h
  refine ⟨dv'', ?_, k.trans h2⟩
  simpa using h1
theorem StkIn.done {M : Nat → Prop} {b o : Nat} {T : TypeId} {c : Array Value} {w w' : World} {dv : Value} {D : List Value} (h : StkIn M b o T (c.setIfInBounds o dv) w' dv D) (k : Kept M w w') : StkPost M b o T c w w' D :=
  ⟨dv, h.blk, h.row, h.nb, h.nM, k⟩

set_option linter.unusedSimpArgs false in
set_option maxHeartbeats 2000000 in
set_option maxRecDepth 100000 in
theorem swap_1 {M : Nat → Prop} {b o : Nat} {T : TypeId} {c : Array Value} {w : World} {dv : Value} {X : List Value} {p1 : Option Addr} {m1 k1 : Nat} {p2 : Option Addr} {m2 k2 : Nat} (h : StkIn M b o T c w dv (X ++ [.slice p1 m1 k1, .slice p2 m2 k2])) (hD : X.length ≤ 10000) :
    Calls Tryz.prog 168 #[.pointer (some ⟨b, o, none⟩), .int .i32 1] w fun e w' => e = .returned .nilIface ∧ StkPost M b o T c w w' (X ++ [.slice p2 m2 k2, .slice p1 m1 k1]) := by
  have H := Lib.hid h
  clear h
  go_enter Tryz.func168, Tryz.ntmps168
  go_wp2_with fail
  refine wp_loop_rounds 2 ?_
  rw [rounds_succ]
  go_wp2_with fail
  refine (nip_at X [.slice p2 m2 k2] (H.out.cast (D' := X ++ .slice p1 m1 k1 :: [.slice p2 m2 k2]) (by first | rfl | simp)) (by simp only [List.length_append, List.length_cons, List.length_nil]; omega) (by intro u hu; simp at hu; rcases hu with rfl <;> rfl) _ (by first | rfl | decide)).mono ?_
  rintro e y0 ⟨rfl, hp⟩
  obtain ⟨dv1, hI, hK⟩ := hp.next H.out
  have I1 := Lib.hid hI
  have N1 := Lib.hid hK
  clear hp hI hK
  go_wp2_with fail
  refine (push_any I1.out _ _ _ (by first | omega | (simp; omega))).mono ?_
  rintro e z0 ⟨rfl, hp⟩
  obtain ⟨dv2, hI, hK⟩ := I1.out.next N1.out hp
  have I2 := Lib.hid hI
  have N2 := Lib.hid hK
  clear hp hI hK I1 N1
  go_wp2_with fail
  rw [rounds_succ]
  go_wp2_with fail
  go_ret
  exact ⟨rfl, (I2.out.done N2.out).cast (by simp)⟩

set_option linter.unusedSimpArgs false in
set_option maxHeartbeats 2000000 in
set_option maxRecDepth 100000 in
theorem swap_2 {M : Nat → Prop} {b o : Nat} {T : TypeId} {c : Array Value} {w : World} {dv : Value} {X : List Value} {p1 : Option Addr} {m1 k1 : Nat} {p2 : Option Addr} {m2 k2 : Nat} {p3 : Option Addr} {m3 k3 : Nat} {p4 : Option Addr} {m4 k4 : Nat} (h : StkIn M b o T c w dv (X ++ [.slice p1 m1 k1, .slice p2 m2 k2, .slice p3 m3 k3, .slice p4 m4 k4])) (hD : X.length ≤ 10000) :
    Calls Tryz.prog 168 #[.pointer (some ⟨b, o, none⟩), .int .i32 2] w fun e w' => e = .returned .nilIface ∧ StkPost M b o T c w w' (X ++ [.slice p3 m3 k3, .slice p4 m4 k4, .slice p1 m1 k1, .slice p2 m2 k2]) := by
  have H := Lib.hid h
  clear h
  go_enter Tryz.func168, Tryz.ntmps168
  go_wp2_with fail
  refine wp_loop_rounds 3 ?_
  rw [rounds_succ]
  go_wp2_with fail
  refine (nip_at X [.slice p2 m2 k2, .slice p3 m3 k3, .slice p4 m4 k4] (H.out.cast (D' := X ++ .slice p1 m1 k1 :: [.slice p2 m2 k2, .slice p3 m3 k3, .slice p4 m4 k4]) (by first | rfl | simp)) (by simp only [List.length_append, List.length_cons, List.length_nil]; omega) (by intro u hu; simp at hu; rcases hu with rfl | rfl | rfl <;> rfl) _ (by first | rfl | decide)).mono ?_
  rintro e y0 ⟨rfl, hp⟩
  obtain ⟨dv1, hI, hK⟩ := hp.next H.out
  have I1 := Lib.hid hI
  have N1 := Lib.hid hK
  clear hp hI hK
  go_wp2_with fail
  refine (push_any I1.out _ _ _ (by first | omega | (simp; omega))).mono ?_
  rintro e z0 ⟨rfl, hp⟩
  obtain ⟨dv2, hI, hK⟩ := I1.out.next N1.out hp
  have I2 := Lib.hid hI
  have N2 := Lib.hid hK
  clear hp hI hK I1 N1
  go_wp2_with fail
  rw [rounds_succ]
  go_wp2_with fail
  refine (nip_at X [.slice p3 m3 k3, .slice p4 m4 k4, .slice p1 m1 k1] (I2.out.cast (D' := X ++ .slice p2 m2 k2 :: [.slice p3 m3 k3, .slice p4 m4 k4, .slice p1 m1 k1]) (by first | rfl | simp)) (by simp only [List.length_append, List.length_cons, List.length_nil]; omega) (by intro u hu; simp at hu; rcases hu with rfl | rfl | rfl <;> rfl) _ (by first | rfl | decide)).mono ?_
  rintro e y1 ⟨rfl, hp⟩
  obtain ⟨dv3, hI, hK⟩ := I2.out.next N2.out hp
  have I3 := Lib.hid hI
  have N3 := Lib.hid hK
  clear hp hI hK I2 N2
  go_wp2_with fail
  refine (push_any I3.out _ _ _ (by first | omega | (simp; omega))).mono ?_
  rintro e z1 ⟨rfl, hp⟩
  obtain ⟨dv4, hI, hK⟩ := I3.out.next N3.out hp
  have I4 := Lib.hid hI
  have N4 := Lib.hid hK
  clear hp hI hK I3 N3
  go_wp2_with fail
  rw [rounds_succ]
  go_wp2_with fail
  go_ret
  exact ⟨rfl, (I4.out.done N4.out).cast (by simp)⟩

set_option linter.unusedSimpArgs false in
set_option maxHeartbeats 2000000 in
set_option maxRecDepth 100000 in
theorem rot_1 {M : Nat → Prop} {b o : Nat} {T : TypeId} {c : Array Value} {w : World} {dv : Value} {X : List Value} {p1 : Option Addr} {m1 k1 : Nat} {p2 : Option Addr} {m2 k2 : Nat} {p3 : Option Addr} {m3 k3 : Nat} (h : StkIn M b o T c w dv (X ++ [.slice p1 m1 k1, .slice p2 m2 k2, .slice p3 m3 k3])) (hD : X.length ≤ 10000) :
    Calls Tryz.prog 167 #[.pointer (some ⟨b, o, none⟩), .int .i32 1] w fun e w' => e = .returned .nilIface ∧ StkPost M b o T c w w' (X ++ [.slice p2 m2 k2, .slice p3 m3 k3, .slice p1 m1 k1]) := by
  have H := Lib.hid h
  clear h
  go_enter Tryz.func167, Tryz.ntmps167
  go_wp2_with fail
  refine wp_loop_rounds 2 ?_
  rw [rounds_succ]
  go_wp2_with fail
  refine (nip_at X [.slice p2 m2 k2, .slice p3 m3 k3] (H.out.cast (D' := X ++ .slice p1 m1 k1 :: [.slice p2 m2 k2, .slice p3 m3 k3]) (by first | rfl | simp)) (by simp only [List.length_append, List.length_cons, List.length_nil]; omega) (by intro u hu; simp at hu; rcases hu with rfl | rfl <;> rfl) _ (by first | rfl | decide)).mono ?_
  rintro e y0 ⟨rfl, hp⟩
  obtain ⟨dv1, hI, hK⟩ := hp.next H.out
  have I1 := Lib.hid hI
  have N1 := Lib.hid hK
  clear hp hI hK
  go_wp2_with fail
  refine (push_any I1.out _ _ _ (by first | omega | (simp; omega))).mono ?_
  rintro e z0 ⟨rfl, hp⟩
  obtain ⟨dv2, hI, hK⟩ := I1.out.next N1.out hp
  have I2 := Lib.hid hI
  have N2 := Lib.hid hK
  clear hp hI hK I1 N1
  go_wp2_with fail
  rw [rounds_succ]
  go_wp2_with fail
  go_ret
  exact ⟨rfl, (I2.out.done N2.out).cast (by simp)⟩

set_option linter.unusedSimpArgs false in
set_option maxHeartbeats 2000000 in
set_option maxRecDepth 100000 in
theorem rot_2 {M : Nat → Prop} {b o : Nat} {T : TypeId} {c : Array Value} {w : World} {dv : Value} {X : List Value} {p1 : Option Addr} {m1 k1 : Nat} {p2 : Option Addr} {m2 k2 : Nat} {p3 : Option Addr} {m3 k3 : Nat} {p4 : Option Addr} {m4 k4 : Nat} {p5 : Option Addr} {m5 k5 : Nat} {p6 : Option Addr} {m6 k6 : Nat} (h : StkIn M b o T c w dv (X ++ [.slice p1 m1 k1, .slice p2 m2 k2, .slice p3 m3 k3, .slice p4 m4 k4, .slice p5 m5 k5, .slice p6 m6 k6])) (hD : X.length ≤ 10000) :
    Calls Tryz.prog 167 #[.pointer (some ⟨b, o, none⟩), .int .i32 2] w fun e w' => e = .returned .nilIface ∧ StkPost M b o T c w w' (X ++ [.slice p3 m3 k3, .slice p4 m4 k4, .slice p5 m5 k5, .slice p6 m6 k6, .slice p1 m1 k1, .slice p2 m2 k2]) := by
  have H := Lib.hid h
  clear h
  go_enter Tryz.func167, Tryz.ntmps167
  go_wp2_with fail
  refine wp_loop_rounds 3 ?_
  rw [rounds_succ]
  go_wp2_with fail
  refine (nip_at X [.slice p2 m2 k2, .slice p3 m3 k3, .slice p4 m4 k4, .slice p5 m5 k5, .slice p6 m6 k6] (H.out.cast (D' := X ++ .slice p1 m1 k1 :: [.slice p2 m2 k2, .slice p3 m3 k3, .slice p4 m4 k4, .slice p5 m5 k5, .slice p6 m6 k6]) (by first | rfl | simp)) (by simp only [List.length_append, List.length_cons, List.length_nil]; omega) (by intro u hu; simp at hu; rcases hu with rfl | rfl | rfl | rfl | rfl <;> rfl) _ (by first | rfl | decide)).mono ?_
  rintro e y0 ⟨rfl, hp⟩
  obtain ⟨dv1, hI, hK⟩ := hp.next H.out
  have I1 := Lib.hid hI
  have N1 := Lib.hid hK
  clear hp hI hK
  go_wp2_with fail
  refine (push_any I1.out _ _ _ (by first | omega | (simp; omega))).mono ?_
  rintro e z0 ⟨rfl, hp⟩
  obtain ⟨dv2, hI, hK⟩ := I1.out.next N1.out hp
  have I2 := Lib.hid hI
  have N2 := Lib.hid hK
  clear hp hI hK I1 N1
  go_wp2_with fail
  rw [rounds_succ]
  go_wp2_with fail
  refine (nip_at X [.slice p3 m3 k3, .slice p4 m4 k4, .slice p5 m5 k5, .slice p6 m6 k6, .slice p1 m1 k1] (I2.out.cast (D' := X ++ .slice p2 m2 k2 :: [.slice p3 m3 k3, .slice p4 m4 k4, .slice p5 m5 k5, .slice p6 m6 k6, .slice p1 m1 k1]) (by first | rfl | simp)) (by simp only [List.length_append, List.length_cons, List.length_nil]; omega) (by intro u hu; simp at hu; rcases hu with rfl | rfl | rfl | rfl | rfl <;> rfl) _ (by first | rfl | decide)).mono ?_
  rintro e y1 ⟨rfl, hp⟩
  obtain ⟨dv3, hI, hK⟩ := I2.out.next N2.out hp
  have I3 := Lib.hid hI
  have N3 := Lib.hid hK
  clear hp hI hK I2 N2
  go_wp2_with fail
  refine (push_any I3.out _ _ _ (by first | omega | (simp; omega))).mono ?_
  rintro e z1 ⟨rfl, hp⟩
  obtain ⟨dv4, hI, hK⟩ := I3.out.next N3.out hp
  have I4 := Lib.hid hI
  have N4 := Lib.hid hK
  clear hp hI hK I3 N3
  go_wp2_with fail
  rw [rounds_succ]
  go_wp2_with fail
  go_ret
  exact ⟨rfl, (I4.out.done N4.out).cast (by simp)⟩

set_option linter.unusedSimpArgs false in
set_option maxHeartbeats 2000000 in
set_option maxRecDepth 100000 in
theorem dup_1 {M : Nat → Prop} {b o : Nat} {T : TypeId} {c : Array Value} {w : World} {dv : Value} {X : List Value} {p1 : Option Addr} {m1 k1 : Nat} (h : StkIn M b o T c w dv (X ++ [.slice p1 m1 k1])) (hD : X.length ≤ 10000) :
    Calls Tryz.prog 165 #[.pointer (some ⟨b, o, none⟩), .int .i32 1] w fun e w' => e = .returned .nilIface ∧ StkPost M b o T c w w' (X ++ [.slice p1 m1 k1, .slice p1 m1 k1]) := by
  have H := Lib.hid h
  clear h
  go_enter Tryz.func165, Tryz.ntmps165
  go_wp2_with fail
  refine wp_loop_rounds 2 ?_
  rw [rounds_succ]
  go_wp2_with fail
  refine (peek_at X [] (H.out.cast (D' := X ++ .slice p1 m1 k1 :: []) (by first | rfl | simp)) (by simp only [List.length_append, List.length_cons, List.length_nil]; omega) _ (by first | rfl | decide)).mono ?_
  rintro e y0 ⟨rfl, rfl⟩
  go_wp2_with fail
  refine (push_any H.out _ _ _ (by first | omega | (simp; omega))).mono ?_
  rintro e z0 ⟨rfl, hp⟩
  obtain ⟨dv1, hI, hK⟩ := hp.next H.out
  have I1 := Lib.hid hI
  have N1 := Lib.hid hK
  clear hp hI hK
  go_wp2_with fail
  rw [rounds_succ]
  go_wp2_with fail
  go_ret
  exact ⟨rfl, (I1.out.done N1.out).cast (by simp)⟩

set_option linter.unusedSimpArgs false in
set_option maxHeartbeats 2000000 in
set_option maxRecDepth 100000 in
theorem dup_2 {M : Nat → Prop} {b o : Nat} {T : TypeId} {c : Array Value} {w : World} {dv : Value} {X : List Value} {p1 : Option Addr} {m1 k1 : Nat} {p2 : Option Addr} {m2 k2 : Nat} (h : StkIn M b o T c w dv (X ++ [.slice p1 m1 k1, .slice p2 m2 k2])) (hD : X.length ≤ 10000) :
    Calls Tryz.prog 165 #[.pointer (some ⟨b, o, none⟩), .int .i32 2] w fun e w' => e = .returned .nilIface ∧ StkPost M b o T c w w' (X ++ [.slice p1 m1 k1, .slice p2 m2 k2, .slice p1 m1 k1, .slice p2 m2 k2]) := by
  have H := Lib.hid h
  clear h
  go_enter Tryz.func165, Tryz.ntmps165
  go_wp2_with fail
  refine wp_loop_rounds 3 ?_
  rw [rounds_succ]
  go_wp2_with fail
  refine (peek_at X [.slice p2 m2 k2] (H.out.cast (D' := X ++ .slice p1 m1 k1 :: [.slice p2 m2 k2]) (by first | rfl | simp)) (by simp only [List.length_append, List.length_cons, List.length_nil]; omega) _ (by first | rfl | decide)).mono ?_
  rintro e y0 ⟨rfl, rfl⟩
  go_wp2_with fail
  refine (push_any H.out _ _ _ (by first | omega | (simp; omega))).mono ?_
  rintro e z0 ⟨rfl, hp⟩
  obtain ⟨dv1, hI, hK⟩ := hp.next H.out
  have I1 := Lib.hid hI
  have N1 := Lib.hid hK
  clear hp hI hK
  go_wp2_with fail
  rw [rounds_succ]
  go_wp2_with fail
  refine (peek_at (X ++ [.slice p1 m1 k1]) [.slice p1 m1 k1] (I1.out.cast (D' := (X ++ [.slice p1 m1 k1]) ++ .slice p2 m2 k2 :: [.slice p1 m1 k1]) (by simp)) (by simp only [List.length_append, List.length_cons, List.length_nil]; omega) _ (by first | rfl | decide)).mono ?_
  rintro e y1 ⟨rfl, rfl⟩
  go_wp2_with fail
  refine (push_any I1.out _ _ _ (by first | omega | (simp; omega))).mono ?_
  rintro e z1 ⟨rfl, hp⟩
  obtain ⟨dv2, hI, hK⟩ := I1.out.next N1.out hp
  have I2 := Lib.hid hI
  have N2 := Lib.hid hK
  clear hp hI hK I1 N1
  go_wp2_with fail
  rw [rounds_succ]
  go_wp2_with fail
  go_ret
  exact ⟨rfl, (I2.out.done N2.out).cast (by simp)⟩

set_option linter.unusedSimpArgs false in
set_option maxHeartbeats 2000000 in
set_option maxRecDepth 100000 in
theorem dup_3 {M : Nat → Prop} {b o : Nat} {T : TypeId} {c : Array Value} {w : World} {dv : Value} {X : List Value} {p1 : Option Addr} {m1 k1 : Nat} {p2 : Option Addr} {m2 k2 : Nat} {p3 : Option Addr} {m3 k3 : Nat} (h : StkIn M b o T c w dv (X ++ [.slice p1 m1 k1, .slice p2 m2 k2, .slice p3 m3 k3])) (hD : X.length ≤ 10000) :
    Calls Tryz.prog 165 #[.pointer (some ⟨b, o, none⟩), .int .i32 3] w fun e w' => e = .returned .nilIface ∧ StkPost M b o T c w w' (X ++ [.slice p1 m1 k1, .slice p2 m2 k2, .slice p3 m3 k3, .slice p1 m1 k1, .slice p2 m2 k2, .slice p3 m3 k3]) := by
  have H := Lib.hid h
  clear h
  go_enter Tryz.func165, Tryz.ntmps165
  go_wp2_with fail
  refine wp_loop_rounds 4 ?_
  rw [rounds_succ]
  go_wp2_with fail
  refine (peek_at X [.slice p2 m2 k2, .slice p3 m3 k3] (H.out.cast (D' := X ++ .slice p1 m1 k1 :: [.slice p2 m2 k2, .slice p3 m3 k3]) (by first | rfl | simp)) (by simp only [List.length_append, List.length_cons, List.length_nil]; omega) _ (by first | rfl | decide)).mono ?_
  rintro e y0 ⟨rfl, rfl⟩
  go_wp2_with fail
  refine (push_any H.out _ _ _ (by first | omega | (simp; omega))).mono ?_
  rintro e z0 ⟨rfl, hp⟩
  obtain ⟨dv1, hI, hK⟩ := hp.next H.out
  have I1 := Lib.hid hI
  have N1 := Lib.hid hK
  clear hp hI hK
  go_wp2_with fail
  rw [rounds_succ]
  go_wp2_with fail
  refine (peek_at (X ++ [.slice p1 m1 k1]) [.slice p3 m3 k3, .slice p1 m1 k1] (I1.out.cast (D' := (X ++ [.slice p1 m1 k1]) ++ .slice p2 m2 k2 :: [.slice p3 m3 k3, .slice p1 m1 k1]) (by simp)) (by simp only [List.length_append, List.length_cons, List.length_nil]; omega) _ (by first | rfl | decide)).mono ?_
  rintro e y1 ⟨rfl, rfl⟩
  go_wp2_with fail
  refine (push_any I1.out _ _ _ (by first | omega | (simp; omega))).mono ?_
  rintro e z1 ⟨rfl, hp⟩
  obtain ⟨dv2, hI, hK⟩ := I1.out.next N1.out hp
  have I2 := Lib.hid hI
  have N2 := Lib.hid hK
  clear hp hI hK I1 N1
  go_wp2_with fail
  rw [rounds_succ]
  go_wp2_with fail
  refine (peek_at (X ++ [.slice p1 m1 k1, .slice p2 m2 k2]) [.slice p1 m1 k1, .slice p2 m2 k2] (I2.out.cast (D' := (X ++ [.slice p1 m1 k1, .slice p2 m2 k2]) ++ .slice p3 m3 k3 :: [.slice p1 m1 k1, .slice p2 m2 k2]) (by simp)) (by simp only [List.length_append, List.length_cons, List.length_nil]; omega) _ (by first | rfl | decide)).mono ?_
  rintro e y2 ⟨rfl, rfl⟩
  go_wp2_with fail
  refine (push_any I2.out _ _ _ (by first | omega | (simp; omega))).mono ?_
  rintro e z2 ⟨rfl, hp⟩
  obtain ⟨dv3, hI, hK⟩ := I2.out.next N2.out hp
  have I3 := Lib.hid hI
  have N3 := Lib.hid hK
  clear hp hI hK I2 N2
  go_wp2_with fail
  rw [rounds_succ]
  go_wp2_with fail
  go_ret
  exact ⟨rfl, (I3.out.done N3.out).cast (by simp)⟩

set_option linter.unusedSimpArgs false in
set_option maxHeartbeats 2000000 in
set_option maxRecDepth 100000 in
theorem over_1 {M : Nat → Prop} {b o : Nat} {T : TypeId} {c : Array Value} {w : World} {dv : Value} {X : List Value} {p1 : Option Addr} {m1 k1 : Nat} {p2 : Option Addr} {m2 k2 : Nat} (h : StkIn M b o T c w dv (X ++ [.slice p1 m1 k1, .slice p2 m2 k2])) (hD : X.length ≤ 10000) :
    Calls Tryz.prog 166 #[.pointer (some ⟨b, o, none⟩), .int .i32 1] w fun e w' => e = .returned .nilIface ∧ StkPost M b o T c w w' (X ++ [.slice p1 m1 k1, .slice p2 m2 k2, .slice p1 m1 k1]) := by
  have H := Lib.hid h
  clear h
  go_enter Tryz.func166, Tryz.ntmps166
  go_wp2_with fail
  refine wp_loop_rounds 2 ?_
  rw [rounds_succ]
  go_wp2_with fail
  refine (peek_at X [.slice p2 m2 k2] (H.out.cast (D' := X ++ .slice p1 m1 k1 :: [.slice p2 m2 k2]) (by first | rfl | simp)) (by simp only [List.length_append, List.length_cons, List.length_nil]; omega) _ (by first | rfl | decide)).mono ?_
  rintro e y0 ⟨rfl, rfl⟩
  go_wp2_with fail
  refine (push_any H.out _ _ _ (by first | omega | (simp; omega))).mono ?_
  rintro e z0 ⟨rfl, hp⟩
  obtain ⟨dv1, hI, hK⟩ := hp.next H.out
  have I1 := Lib.hid hI
  have N1 := Lib.hid hK
  clear hp hI hK
  go_wp2_with fail
  rw [rounds_succ]
  go_wp2_with fail
  go_ret
  exact ⟨rfl, (I1.out.done N1.out).cast (by simp)⟩

set_option linter.unusedSimpArgs false in
set_option maxHeartbeats 2000000 in
set_option maxRecDepth 100000 in
theorem over_2 {M : Nat → Prop} {b o : Nat} {T : TypeId} {c : Array Value} {w : World} {dv : Value} {X : List Value} {p1 : Option Addr} {m1 k1 : Nat} {p2 : Option Addr} {m2 k2 : Nat} {p3 : Option Addr} {m3 k3 : Nat} {p4 : Option Addr} {m4 k4 : Nat} (h : StkIn M b o T c w dv (X ++ [.slice p1 m1 k1, .slice p2 m2 k2, .slice p3 m3 k3, .slice p4 m4 k4])) (hD : X.length ≤ 10000) :
    Calls Tryz.prog 166 #[.pointer (some ⟨b, o, none⟩), .int .i32 2] w fun e w' => e = .returned .nilIface ∧ StkPost M b o T c w w' (X ++ [.slice p1 m1 k1, .slice p2 m2 k2, .slice p3 m3 k3, .slice p4 m4 k4, .slice p1 m1 k1, .slice p2 m2 k2]) := by
  have H := Lib.hid h
  clear h
  go_enter Tryz.func166, Tryz.ntmps166
  go_wp2_with fail
  refine wp_loop_rounds 3 ?_
  rw [rounds_succ]
  go_wp2_with fail
  refine (peek_at X [.slice p2 m2 k2, .slice p3 m3 k3, .slice p4 m4 k4] (H.out.cast (D' := X ++ .slice p1 m1 k1 :: [.slice p2 m2 k2, .slice p3 m3 k3, .slice p4 m4 k4]) (by first | rfl | simp)) (by simp only [List.length_append, List.length_cons, List.length_nil]; omega) _ (by first | rfl | decide)).mono ?_
  rintro e y0 ⟨rfl, rfl⟩
  go_wp2_with fail
  refine (push_any H.out _ _ _ (by first | omega | (simp; omega))).mono ?_
  rintro e z0 ⟨rfl, hp⟩
  obtain ⟨dv1, hI, hK⟩ := hp.next H.out
  have I1 := Lib.hid hI
  have N1 := Lib.hid hK
  clear hp hI hK
  go_wp2_with fail
  rw [rounds_succ]
  go_wp2_with fail
  refine (peek_at (X ++ [.slice p1 m1 k1]) [.slice p3 m3 k3, .slice p4 m4 k4, .slice p1 m1 k1] (I1.out.cast (D' := (X ++ [.slice p1 m1 k1]) ++ .slice p2 m2 k2 :: [.slice p3 m3 k3, .slice p4 m4 k4, .slice p1 m1 k1]) (by simp)) (by simp only [List.length_append, List.length_cons, List.length_nil]; omega) _ (by first | rfl | decide)).mono ?_
  rintro e y1 ⟨rfl, rfl⟩
  go_wp2_with fail
  refine (push_any I1.out _ _ _ (by first | omega | (simp; omega))).mono ?_
  rintro e z1 ⟨rfl, hp⟩
  obtain ⟨dv2, hI, hK⟩ := I1.out.next N1.out hp
  have I2 := Lib.hid hI
  have N2 := Lib.hid hK
  clear hp hI hK I1 N1
  go_wp2_with fail
  rw [rounds_succ]
  go_wp2_with fail
  go_ret
  exact ⟨rfl, (I2.out.done N2.out).cast (by simp)⟩

set_option linter.unusedSimpArgs false in
set_option maxHeartbeats 2000000 in
set_option maxRecDepth 100000 in
theorem pick_0 {M : Nat → Prop} {b o : Nat} {T : TypeId} {c : Array Value} {w : World} {dv : Value} {X : List Value} {p1 : Option Addr} {m1 k1 : Nat} (h : StkIn M b o T c w dv (X ++ [.slice p1 m1 k1])) (hD : X.length ≤ 10000) :
    Calls Tryz.prog 171 #[.pointer (some ⟨b, o, none⟩), .int .i32 0] w fun e w' => e = .returned .nilIface ∧ StkPost M b o T c w w' (X ++ [.slice p1 m1 k1, .slice p1 m1 k1]) := by
  have H := Lib.hid h
  clear h
  go_enter Tryz.func171, Tryz.ntmps171
  go_wp2_with fail
  refine (peek_at X [] (H.out.cast (D' := X ++ .slice p1 m1 k1 :: []) (by first | rfl | simp)) (by simp only [List.length_append, List.length_cons, List.length_nil]; omega) _ (by first | rfl | decide)).mono ?_
  rintro e y0 ⟨rfl, rfl⟩
  go_wp2_with fail
  refine (push_any H.out _ _ _ (by first | omega | (simp; omega))).mono ?_
  rintro e z0 ⟨rfl, hp⟩
  obtain ⟨dv1, hI, hK⟩ := hp.next H.out
  have I1 := Lib.hid hI
  have N1 := Lib.hid hK
  clear hp hI hK
  go_wp2_with fail
  go_ret
  exact ⟨rfl, (I1.out.done N1.out).cast (by simp)⟩

set_option linter.unusedSimpArgs false in
set_option maxHeartbeats 2000000 in
set_option maxRecDepth 100000 in
theorem pick_5 {M : Nat → Prop} {b o : Nat} {T : TypeId} {c : Array Value} {w : World} {dv : Value} {X : List Value} {p1 : Option Addr} {m1 k1 : Nat} {p2 : Option Addr} {m2 k2 : Nat} {p3 : Option Addr} {m3 k3 : Nat} {p4 : Option Addr} {m4 k4 : Nat} {p5 : Option Addr} {m5 k5 : Nat} {p6 : Option Addr} {m6 k6 : Nat} (h : StkIn M b o T c w dv (X ++ [.slice p1 m1 k1, .slice p2 m2 k2, .slice p3 m3 k3, .slice p4 m4 k4, .slice p5 m5 k5, .slice p6 m6 k6])) (hD : X.length ≤ 10000) :
    Calls Tryz.prog 171 #[.pointer (some ⟨b, o, none⟩), .int .i32 5] w fun e w' => e = .returned .nilIface ∧ StkPost M b o T c w w' (X ++ [.slice p1 m1 k1, .slice p2 m2 k2, .slice p3 m3 k3, .slice p4 m4 k4, .slice p5 m5 k5, .slice p6 m6 k6, .slice p1 m1 k1]) := by
  have H := Lib.hid h
  clear h
  go_enter Tryz.func171, Tryz.ntmps171
  go_wp2_with fail
  refine (peek_at X [.slice p2 m2 k2, .slice p3 m3 k3, .slice p4 m4 k4, .slice p5 m5 k5, .slice p6 m6 k6] (H.out.cast (D' := X ++ .slice p1 m1 k1 :: [.slice p2 m2 k2, .slice p3 m3 k3, .slice p4 m4 k4, .slice p5 m5 k5, .slice p6 m6 k6]) (by first | rfl | simp)) (by simp only [List.length_append, List.length_cons, List.length_nil]; omega) _ (by first | rfl | decide)).mono ?_
  rintro e y0 ⟨rfl, rfl⟩
  go_wp2_with fail
  refine (push_any H.out _ _ _ (by first | omega | (simp; omega))).mono ?_
  rintro e z0 ⟨rfl, hp⟩
  obtain ⟨dv1, hI, hK⟩ := hp.next H.out
  have I1 := Lib.hid hI
  have N1 := Lib.hid hK
  clear hp hI hK
  go_wp2_with fail
  go_ret
  exact ⟨rfl, (I1.out.done N1.out).cast (by simp)⟩

set_option linter.unusedSimpArgs false in
set_option maxHeartbeats 2000000 in
set_option maxRecDepth 100000 in
theorem roll_0 {M : Nat → Prop} {b o : Nat} {T : TypeId} {c : Array Value} {w : World} {dv : Value} {X : List Value} {p1 : Option Addr} {m1 k1 : Nat} (h : StkIn M b o T c w dv (X ++ [.slice p1 m1 k1])) (hD : X.length ≤ 10000) :
    Calls Tryz.prog 173 #[.pointer (some ⟨b, o, none⟩), .int .i32 0] w fun e w' => e = .returned .nilIface ∧ StkPost M b o T c w w' (X ++ [.slice p1 m1 k1]) := by
  have H := Lib.hid h
  clear h
  go_enter Tryz.func173, Tryz.ntmps173
  go_wp2_with fail
  refine (nip_at X [] (H.out.cast (D' := X ++ .slice p1 m1 k1 :: []) (by first | rfl | simp)) (by simp only [List.length_append, List.length_cons, List.length_nil]; omega) (by intro u hu; cases hu) _ (by first | rfl | decide)).mono ?_
  rintro e y0 ⟨rfl, hp⟩
  obtain ⟨dv1, hI, hK⟩ := hp.next H.out
  have I1 := Lib.hid hI
  have N1 := Lib.hid hK
  clear hp hI hK
  go_wp2_with fail
  refine (push_any I1.out _ _ _ (by first | omega | (simp; omega))).mono ?_
  rintro e z0 ⟨rfl, hp⟩
  obtain ⟨dv2, hI, hK⟩ := I1.out.next N1.out hp
  have I2 := Lib.hid hI
  have N2 := Lib.hid hK
  clear hp hI hK I1 N1
  go_wp2_with fail
  go_ret
  exact ⟨rfl, (I2.out.done N2.out).cast (by simp)⟩

set_option linter.unusedSimpArgs false in
set_option maxHeartbeats 2000000 in
set_option maxRecDepth 100000 in
theorem roll_1 {M : Nat → Prop} {b o : Nat} {T : TypeId} {c : Array Value} {w : World} {dv : Value} {X : List Value} {p1 : Option Addr} {m1 k1 : Nat} {p2 : Option Addr} {m2 k2 : Nat} (h : StkIn M b o T c w dv (X ++ [.slice p1 m1 k1, .slice p2 m2 k2])) (hD : X.length ≤ 10000) :
    Calls Tryz.prog 173 #[.pointer (some ⟨b, o, none⟩), .int .i32 1] w fun e w' => e = .returned .nilIface ∧ StkPost M b o T c w w' (X ++ [.slice p2 m2 k2, .slice p1 m1 k1]) := by
  have H := Lib.hid h
  clear h
  go_enter Tryz.func173, Tryz.ntmps173
  go_wp2_with fail
  refine (nip_at X [.slice p2 m2 k2] (H.out.cast (D' := X ++ .slice p1 m1 k1 :: [.slice p2 m2 k2]) (by first | rfl | simp)) (by simp only [List.length_append, List.length_cons, List.length_nil]; omega) (by intro u hu; simp at hu; rcases hu with rfl <;> rfl) _ (by first | rfl | decide)).mono ?_
  rintro e y0 ⟨rfl, hp⟩
  obtain ⟨dv1, hI, hK⟩ := hp.next H.out
  have I1 := Lib.hid hI
  have N1 := Lib.hid hK
  clear hp hI hK
  go_wp2_with fail
  refine (push_any I1.out _ _ _ (by first | omega | (simp; omega))).mono ?_
  rintro e z0 ⟨rfl, hp⟩
  obtain ⟨dv2, hI, hK⟩ := I1.out.next N1.out hp
  have I2 := Lib.hid hI
  have N2 := Lib.hid hK
  clear hp hI hK I1 N1
  go_wp2_with fail
  go_ret
  exact ⟨rfl, (I2.out.done N2.out).cast (by simp)⟩

set_option linter.unusedSimpArgs false in
set_option maxHeartbeats 2000000 in
set_option maxRecDepth 100000 in
theorem roll_2 {M : Nat → Prop} {b o : Nat} {T : TypeId} {c : Array Value} {w : World} {dv : Value} {X : List Value} {p1 : Option Addr} {m1 k1 : Nat} {p2 : Option Addr} {m2 k2 : Nat} {p3 : Option Addr} {m3 k3 : Nat} (h : StkIn M b o T c w dv (X ++ [.slice p1 m1 k1, .slice p2 m2 k2, .slice p3 m3 k3])) (hD : X.length ≤ 10000) :
    Calls Tryz.prog 173 #[.pointer (some ⟨b, o, none⟩), .int .i32 2] w fun e w' => e = .returned .nilIface ∧ StkPost M b o T c w w' (X ++ [.slice p2 m2 k2, .slice p3 m3 k3, .slice p1 m1 k1]) := by
  have H := Lib.hid h
  clear h
  go_enter Tryz.func173, Tryz.ntmps173
  go_wp2_with fail
  refine (nip_at X [.slice p2 m2 k2, .slice p3 m3 k3] (H.out.cast (D' := X ++ .slice p1 m1 k1 :: [.slice p2 m2 k2, .slice p3 m3 k3]) (by first | rfl | simp)) (by simp only [List.length_append, List.length_cons, List.length_nil]; omega) (by intro u hu; simp at hu; rcases hu with rfl | rfl <;> rfl) _ (by first | rfl | decide)).mono ?_
  rintro e y0 ⟨rfl, hp⟩
  obtain ⟨dv1, hI, hK⟩ := hp.next H.out
  have I1 := Lib.hid hI
  have N1 := Lib.hid hK
  clear hp hI hK
  go_wp2_with fail
  refine (push_any I1.out _ _ _ (by first | omega | (simp; omega))).mono ?_
  rintro e z0 ⟨rfl, hp⟩
  obtain ⟨dv2, hI, hK⟩ := I1.out.next N1.out hp
  have I2 := Lib.hid hI
  have N2 := Lib.hid hK
  clear hp hI hK I1 N1
  go_wp2_with fail
  go_ret
  exact ⟨rfl, (I2.out.done N2.out).cast (by simp)⟩

set_option linter.unusedSimpArgs false in
set_option maxHeartbeats 2000000 in
set_option maxRecDepth 100000 in
theorem drop_2 {M : Nat → Prop} {b o : Nat} {T : TypeId} {c : Array Value} {w : World} {dv : Value} {X : List Value} {p1 : Option Addr} {m1 k1 : Nat} {p2 : Option Addr} {m2 k2 : Nat} (h : StkIn M b o T c w dv (X ++ [.slice p1 m1 k1, .slice p2 m2 k2])) (hD : X.length ≤ 10000) :
    Calls Tryz.prog 39 #[.pointer (some ⟨b, o, none⟩), .int .i32 2] w fun e w' => e = .returned .nilIface ∧ StkPost M b o T c w w' (X ++ []) := by
  have H := Lib.hid h
  clear h
  go_enter Tryz.func39, Tryz.ntmps39
  go_wp2_with fail
  refine wp_loop_rounds 3 ?_
  rw [rounds_succ]
  go_wp2_with fail
  refine (pop_any (D := (X ++ [.slice p1 m1 k1])) (H.out.cast (D' := (X ++ [.slice p1 m1 k1]) ++ .slice p2 m2 k2 :: []) (by simp)) (by first | omega | (simp; omega))).mono ?_
  rintro e y0 ⟨rfl, hp⟩
  obtain ⟨dv1, hI, hK⟩ := hp.next H.out
  have I1 := Lib.hid hI
  have N1 := Lib.hid hK
  clear hp hI hK
  go_wp2_with fail
  rw [rounds_succ]
  go_wp2_with fail
  refine (pop_any (D := X) (I1.out.cast (D' := X ++ .slice p1 m1 k1 :: []) (by first | rfl | simp)) (by first | omega | (simp; omega))).mono ?_
  rintro e y1 ⟨rfl, hp⟩
  obtain ⟨dv2, hI, hK⟩ := I1.out.next N1.out hp
  have I2 := Lib.hid hI
  have N2 := Lib.hid hK
  clear hp hI hK I1 N1
  go_wp2_with fail
  rw [rounds_succ]
  go_wp2_with fail
  go_ret
  exact ⟨rfl, (I2.out.done N2.out).cast (by simp)⟩

set_option linter.unusedSimpArgs false in
set_option maxHeartbeats 2000000 in
set_option maxRecDepth 100000 in
theorem nip_1 {M : Nat → Prop} {b o : Nat} {T : TypeId} {c : Array Value} {w : World} {dv : Value} {X : List Value} {p1 : Option Addr} {m1 k1 : Nat} {p2 : Option Addr} {m2 k2 : Nat} (h : StkIn M b o T c w dv (X ++ [.slice p1 m1 k1, .slice p2 m2 k2])) (hD : X.length ≤ 10000) :
    Calls Tryz.prog 169 #[.pointer (some ⟨b, o, none⟩), .int .i32 1] w fun e w' => e = .returned .nilIface ∧ StkPost M b o T c w w' (X ++ [.slice p2 m2 k2]) := by
  have H := Lib.hid h
  clear h
  go_enter Tryz.func169, Tryz.ntmps169
  go_wp2_with fail
  refine (nip_at X [.slice p2 m2 k2] (H.out.cast (D' := X ++ .slice p1 m1 k1 :: [.slice p2 m2 k2]) (by first | rfl | simp)) (by simp only [List.length_append, List.length_cons, List.length_nil]; omega) (by intro u hu; simp at hu; rcases hu with rfl <;> rfl) _ (by first | rfl | decide)).mono ?_
  rintro e y0 ⟨rfl, hp⟩
  obtain ⟨dv1, hI, hK⟩ := hp.next H.out
  have I1 := Lib.hid hI
  have N1 := Lib.hid hK
  clear hp hI hK
  go_wp2_with fail
  go_ret
  exact ⟨rfl, (I1.out.done N1.out).cast (by simp)⟩

set_option linter.unusedSimpArgs false in
set_option maxHeartbeats 2000000 in
set_option maxRecDepth 100000 in
theorem tuck_a {M : Nat → Prop} {b o : Nat} {T : TypeId} {c : Array Value} {w : World} {dv : Value} {X : List Value} {p1 : Option Addr} {m1 k1 : Nat} {p2 : Option Addr} {m2 k2 : Nat} (h : StkIn M b o T c w dv (X ++ [.slice p1 m1 k1, .slice p2 m2 k2])) (hD : X.length ≤ 10000) :
    Calls Tryz.prog 174 #[.pointer (some ⟨b, o, none⟩)] w fun e w' => e = .returned .nilIface ∧ StkPost M b o T c w w' (X ++ [.slice p2 m2 k2, .slice p1 m1 k1, .slice p2 m2 k2]) := by
  have H := Lib.hid h
  clear h
  go_enter Tryz.func174, Tryz.ntmps174
  go_wp2_with fail
  refine (pop_any (D := (X ++ [.slice p1 m1 k1])) (H.out.cast (D' := (X ++ [.slice p1 m1 k1]) ++ .slice p2 m2 k2 :: []) (by simp)) (by first | omega | (simp; omega))).mono ?_
  rintro e y0 ⟨rfl, hp⟩
  obtain ⟨dv1, hI, hK⟩ := hp.next H.out
  have I1 := Lib.hid hI
  have N1 := Lib.hid hK
  clear hp hI hK
  go_wp2_with fail
  refine (pop_any (D := X) (I1.out.cast (D' := X ++ .slice p1 m1 k1 :: []) (by first | rfl | simp)) (by first | omega | (simp; omega))).mono ?_
  rintro e y1 ⟨rfl, hp⟩
  obtain ⟨dv2, hI, hK⟩ := I1.out.next N1.out hp
  have I2 := Lib.hid hI
  have N2 := Lib.hid hK
  clear hp hI hK I1 N1
  go_wp2_with fail
  refine (push_any I2.out _ _ _ (by first | omega | (simp; omega))).mono ?_
  rintro e z2 ⟨rfl, hp⟩
  obtain ⟨dv3, hI, hK⟩ := I2.out.next N2.out hp
  have I3 := Lib.hid hI
  have N3 := Lib.hid hK
  clear hp hI hK I2 N2
  go_wp2_with fail
  refine (push_any I3.out _ _ _ (by first | omega | (simp; omega))).mono ?_
  rintro e z3 ⟨rfl, hp⟩
  obtain ⟨dv4, hI, hK⟩ := I3.out.next N3.out hp
  have I4 := Lib.hid hI
  have N4 := Lib.hid hK
  clear hp hI hK I3 N3
  go_wp2_with fail
  refine (push_any I4.out _ _ _ (by first | omega | (simp; omega))).mono ?_
  rintro e z4 ⟨rfl, hp⟩
  obtain ⟨dv5, hI, hK⟩ := I4.out.next N4.out hp
  have I5 := Lib.hid hI
  have N5 := Lib.hid hK
  clear hp hI hK I4 N4
  go_wp2_with fail
  go_ret
  exact ⟨rfl, (I5.out.done N5.out).cast (by simp)⟩

end Go.Proofs.YtaohcejbjeaemaaGreatDoor

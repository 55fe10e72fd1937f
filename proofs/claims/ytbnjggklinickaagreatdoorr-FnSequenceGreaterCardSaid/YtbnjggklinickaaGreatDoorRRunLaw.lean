import Derived.Test.YtbnjggklinickaaGreatDoorRGo
namespace Go.Proofs.YtbnjggklinickaaGreatDoorR
open Go Go.RowKit

theorem gs_nil {K : EngK} {V : EngV} {w : World} (h : Eng K V [] w) : Calls Tryz.prog 13 #[.pointer (some ⟨K.e, 0, none⟩)] w fun e w' => (∃ q m, e = .returned (.slice q 0 m)) ∧ Below w.heap.size w w' := by
  obtain ⟨D, hD, hE⟩ := h.row
  have hd : D = [] := List.eq_nil_of_length_eq_zero (by rw [hE.length]; rfl)
  subst hd
  have ⟨sp, sk, hs⟩ : ∃ sp sk, V.stk = .slice sp 0 sk := by
    rcases hD.form with ⟨h1, _⟩ | ⟨g, cap, cur, h1, _⟩
    · exact ⟨_, _, h1⟩
    · exact ⟨_, _, h1⟩
  have c23 : w.cell? ⟨K.e, 23, none⟩ = some (.slice sp 0 sk) := by rw [h.cell 23, ← hs]; rfl
  clear h hD hE hs
  go_enter Tryz.func13, Tryz.ntmps13
  go_wp2_with fail
  refine (getStack_zero (o := 23) c23).mono ?_
  rintro e w1 ⟨⟨q, m, rfl⟩, hb⟩
  have HB := Lib.hid hb
  clear hb
  go_wp2_with fail
  go_ret
  exact ⟨⟨_, _, rfl⟩, HB.out⟩
#print axioms gs_nil

theorem gs_one {K : EngK} {V : EngV} {w : World} {bs : List Int} (h : Eng K V [bs] w) : Calls Tryz.prog 13 #[.pointer (some ⟨K.e, 0, none⟩)] w fun e w' => e = .returned (.slice (some ⟨w.heap.size, 0, none⟩) 1 1) ∧ Below w.heap.size w w' ∧
    ∃ x, w'.cell? ⟨w.heap.size, 0, none⟩ = some x ∧ Elem (Live K V w) w x bs := by
  obtain ⟨D, hD, hE⟩ := h.row
  obtain ⟨D', x, rfl, hE3, hx⟩ := hE.last (E := [])
  have hd : D' = [] := List.eq_nil_of_length_eq_zero (by rw [hE3.length]; rfl)
  subst hd
  have hx' := hx
  obtain ⟨pp, m, rfl, hm⟩ := hx'
  rcases hD.form with ⟨_, h2⟩ | ⟨g, cap, cur, h1, hg, h3, h4, h5, h6⟩
  · simp at h2
  have c23 : w.cell? ⟨K.e, 23, none⟩ = some (.slice (some ⟨g, 0, none⟩) 1 cap) := by rw [h.cell 23]; exact congrArg some h1
  have hcell : w.cell? ⟨g, 0, none⟩ = some (.slice pp bs.length m) := Row.cellAt hg h6 _ _ rfl
  have HX := Lib.hid hx
  clear h hD hE hE3 hm hg h6 h1 hx h3 h4 h5
  go_enter Tryz.func13, Tryz.ntmps13
  go_wp2_with fail
  refine (getStack_one (o := 23) c23 hcell).mono ?_
  rintro e w1 ⟨rfl, hb, hc⟩
  have HB := Lib.hid hb
  have HC := Lib.hid hc
  clear hb hc
  go_wp2_with fail
  go_ret
  exact ⟨rfl, HB.out, _, HC.out, HX.out⟩
#print axioms gs_one

theorem run_below {K : EngK} {V' : EngV} {w w0 w1 w2 w3 : World} (h0 : Below w.heap.size w w0) (h1 : Below w0.heap.size w0 w1) (hge : w0.heap.size ≤ K.e) (h2 : To K V0 w1 V' w2) (h3 : Below w2.heap.size w2 w3) : Below w.heap.size w w3 := by
  have z0 := h0.size
  have z1 := h1.size
  have z2 := h2.kept.size
  have k2 : Below w0.heap.size w1 w2 := ⟨h2.kept.os, h2.kept.tape, h2.kept.output, h2.kept.size, fun k hk => h2.kept.block k ⟨by omega, by omega, by simp [V0, Value.ownBlock]⟩⟩
  exact h0.trans ((h1.trans (k2.trans (h3.mono (by omega)))).mono z0)

/-- What Run answers. -/
def RunPost (kind : Int) (w : World) (e : Ending) (w' : World) : Prop := (∃ v, e = .returned (.tuple #[.int .i64 kind, v])) ∧ Below w.heap.size w w'

set_option maxHeartbeats 4000000 in
set_option maxRecDepth 100000 in
theorem run_yes {M : Nat → Prop} {w : World} {p : Option Addr} {k : Nat} {bs : List Int} (hx : Elem M w (.slice p bs.length k) bs) (hM : ∀ k, M k → k < w.heap.size) (hs : Script bs 0) (hl : 0 < bs.length ∧ bs.length ≤ 10000)
    {gi gk go gok : Nat} {ver lock sq amt rules : Int} (hin : w.heap[gi]? = some (.cells (in0 sq).toArray 40 (0, 0))) (hout : w.heap[go]? = some (.cells #[.int .i64 1, .slice none 0 0] 48 (0, 0))) (hfl : NoFlags rules)
    (hgo : ∀ K w1, Eng K V0 [] w1 → EngineOf K bs ver sq rules → Goes K.e (Let K w1) 4 w1) :
    Calls Tryz.prog 7 #[.agg #[.slice p bs.length k, .int .i64 amt, .int .i32 ver, .slice (some ⟨gi, 0, none⟩) 1 gk, .slice (some ⟨go, 0, none⟩) 1 gok, .int .u32 lock, .int .i64 0, .int .u32 rules]] w (RunPost 0 w) := by
  have lgi := lt_of_block hin
  have lgo := lt_of_block hout
  have HX := Lib.hid hx
  have HS := Lib.hid hs
  have HI := Lib.hid hin
  have HO := Lib.hid hout
  have HM := Lib.hid hM
  have HFL := Lib.hid hfl
  have HG := Lib.hid hgo
  have HL := Lib.hid hl
  clear hx hs hin hout hM hfl hgo hl
  go_enter Tryz.func7, Tryz.ntmps7
  go_wp2_with fail
  obtain ⟨w0, hw0⟩ : ∃ w0, w0 = w.alloc (.cells #[.slice p bs.length k, .int .i64 amt, .int .i32 ver, .slice (some ⟨gi, 0, none⟩) 1 gk, .slice (some ⟨go, 0, none⟩) 1 gok, .int .u32 lock, .int .i64 0, .int .u32 rules] 33) := ⟨_, rfl⟩
  have hb0 : Below w.heap.size w w0 := by rw [hw0]; exact (Below.refl _ _).alloc (Nat.le_refl _) _
  rw [← hw0]
  have HB0 := Lib.hid hb0
  clear hw0 hb0
  refine (engine_any (HX.out.kept ((kept_of_below HB0.out).mono HM.out)) (fun k hk => Nat.lt_of_lt_of_le (HM.out k hk) HB0.out.size) HS.out HL.out ((HB0.out.block gi lgi).trans HI.out) ((HB0.out.block go lgo).trans HO.out) HFL.out).mono ?_
  rintro e w1 ⟨K, rfl, hb1, hge, E1, O1⟩
  have HB1 := Lib.hid hb1
  have HGE := Lib.hid hge
  have HE1 := Lib.hid E1
  have HO1 := Lib.hid O1
  clear hb1 hge E1 O1
  go_wp2_with fail
  refine (execute_any (R := Let K w1) (fun e w h => ⟨_, h.1⟩) 4 (HE1.out.cell 6) (HE1.out.cell 33) (HG.out K w1 HE1.out HO1.out)).mono ?_
  rintro e w2 ⟨rfl, V', E2, T2⟩
  have HE2 := Lib.hid E2
  have HT2 := Lib.hid T2
  clear E2 T2
  go_wp2_with (go_at_call 10; refine (kindOf_nil _).mono ?_; rintro e w' ⟨rfl, rfl⟩)
  refine (gs_nil HE2.out).mono ?_
  rintro e w3 ⟨⟨q, m, rfl⟩, hb3⟩
  have HB3 := Lib.hid hb3
  clear hb3
  go_wp2_with (go_at_call 12; refine (copies_zero _ _ _).mono ?_; rintro e w' ⟨rfl, rfl⟩)
  go_ret2
  exact ⟨⟨_, rfl⟩, run_below HB0.out HB1.out HGE.out HT2.out HB3.out⟩
#print axioms run_yes

set_option maxHeartbeats 4000000 in
set_option maxRecDepth 100000 in
theorem run_no {M : Nat → Prop} {w : World} {p : Option Addr} {k : Nat} {bs : List Int} (hx : Elem M w (.slice p bs.length k) bs) (hM : ∀ k, M k → k < w.heap.size) (hs : Script bs 0) (hl : 0 < bs.length ∧ bs.length ≤ 10000)
    {nb : List Int} (hnb : nb.length ≤ 100000) {gi gk go gok : Nat} {ver lock sq amt rules : Int} (hin : w.heap[gi]? = some (.cells (in0 sq).toArray 40 (0, 0))) (hout : w.heap[go]? = some (.cells #[.int .i64 1, .slice none 0 0] 48 (0, 0))) (hfl : NoFlags rules)
    (hgo : ∀ K w1, Eng K V0 [] w1 → EngineOf K bs ver sq rules → Goes K.e (Refused K nb w1) 4 w1) :
    Calls Tryz.prog 7 #[.agg #[.slice p bs.length k, .int .i64 amt, .int .i32 ver, .slice (some ⟨gi, 0, none⟩) 1 gk, .slice (some ⟨go, 0, none⟩) 1 gok, .int .u32 lock, .int .i64 0, .int .u32 rules]] w (RunPost 58 w) := by
  have lgi := lt_of_block hin
  have lgo := lt_of_block hout
  have HX := Lib.hid hx
  have HS := Lib.hid hs
  have HI := Lib.hid hin
  have HO := Lib.hid hout
  have HM := Lib.hid hM
  have HFL := Lib.hid hfl
  have HG := Lib.hid hgo
  have HL := Lib.hid hl
  clear hx hs hin hout hM hfl hgo hl
  go_enter Tryz.func7, Tryz.ntmps7
  go_wp2_with fail
  obtain ⟨w0, hw0⟩ : ∃ w0, w0 = w.alloc (.cells #[.slice p bs.length k, .int .i64 amt, .int .i32 ver, .slice (some ⟨gi, 0, none⟩) 1 gk, .slice (some ⟨go, 0, none⟩) 1 gok, .int .u32 lock, .int .i64 0, .int .u32 rules] 33) := ⟨_, rfl⟩
  have hb0 : Below w.heap.size w w0 := by rw [hw0]; exact (Below.refl _ _).alloc (Nat.le_refl _) _
  rw [← hw0]
  have HB0 := Lib.hid hb0
  clear hw0 hb0
  refine (engine_any (HX.out.kept ((kept_of_below HB0.out).mono HM.out)) (fun k hk => Nat.lt_of_lt_of_le (HM.out k hk) HB0.out.size) HS.out HL.out ((HB0.out.block gi lgi).trans HI.out) ((HB0.out.block go lgo).trans HO.out) HFL.out).mono ?_
  rintro e w1 ⟨K, rfl, hb1, hge, E1, O1⟩
  have HB1 := Lib.hid hb1
  have HGE := Lib.hid hge
  have HE1 := Lib.hid E1
  have HO1 := Lib.hid O1
  clear hb1 hge E1 O1
  go_wp2_with fail
  refine (execute_any (R := Refused K nb w1) (fun e w h => by obtain ⟨⟨x, h⟩, _⟩ := h; exact ⟨_, h⟩) 4 (HE1.out.cell 6) (HE1.out.cell 33) (HG.out K w1 HE1.out HO1.out)).mono ?_
  rintro e w2 ⟨⟨x, rfl⟩, V', E2, T2⟩
  have HE2 := Lib.hid E2
  have HT2 := Lib.hid T2
  clear E2 T2
  go_wp2_with fail
  refine (kindOf_57 _ _).mono ?_
  rintro e w3 ⟨rfl, hb3⟩
  have HB3 := Lib.hid hb3
  have E3 := HE2.out.put (V' := V') rfl ((hb3.block K.e HE2.out.lt).trans HE2.out.blk) ((kept_of_below hb3).mono fun k hk => hk.1)
  have HE3 := Lib.hid E3.1
  clear hb3 E3
  go_wp2_with fail
  refine (gs_one HE3.out).mono ?_
  rintro e w4 ⟨rfl, hb4, y, hc4, hy4⟩
  have hy4 := Elem.kept hy4 ((kept_of_below hb4).mono fun k hk => hk.1)
  have HB4 := Lib.hid hb4
  have HY4 := Lib.hid hy4
  have HC4 := Lib.hid hc4
  clear hb4 hy4 hc4
  go_wp2_with fail
  refine (copies_one HC4.out HY4.out (fun k hk => Nat.lt_of_lt_of_le hk.1 HB4.out.size) hnb).mono ?_
  rintro e w5 ⟨⟨v, rfl⟩, hb5⟩
  have HB5 := Lib.hid hb5
  clear hb5
  go_wp2_with fail
  go_ret2
  exact ⟨⟨_, rfl⟩, run_below HB0.out HB1.out HGE.out HT2.out (HB3.out.trans ((HB4.out.mono HB3.out.size).trans (HB5.out.mono (Nat.le_trans HB3.out.size HB4.out.size))))⟩
#print axioms run_no
end Go.Proofs.YtbnjggklinickaaGreatDoorR

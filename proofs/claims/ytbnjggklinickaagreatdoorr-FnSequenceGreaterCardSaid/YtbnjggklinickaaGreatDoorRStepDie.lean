import Derived.Test.YtbnjggklinickaaGreatDoorRStep
namespace Go.Proofs.YtbnjggklinickaaGreatDoorR
open Go Go.RowKit

set_option maxHeartbeats 4000000 in
set_option maxRecDepth 100000 in
theorem step_die {K : EngK} {V : EngV} {E : List (List Int)} {w : World} (h : Eng K V E w) (hL : K.L ≤ 100000) {v len : Int} {off' : Nat} {pos' : Int} {dp : Option Addr} {dn dk : Nat} {c : Int}
    (hsi : V.si = 1) (hoi : 0 ≤ V.oi ∧ V.oi ≤ 100000) 
    (hn : Nexts K V v len off' pos' (.slice dp dn dk) w) (hx : Dies K V E c v off' pos' dp dn dk w) :
    Calls Tryz.prog 19 #[.pointer (some ⟨K.e, 0, none⟩)] w fun e w' =>
      ∃ (x : ByteArray) (V' : EngV), e = .returned (.tuple #[.bool true, .iface 67 (.agg #[.int .i64 c, .string x])]) ∧ Eng K V' E w' ∧ To K V w V' w' := by
  have c11 : w.cell? ⟨K.e, 11, none⟩ = some (.slice (some ⟨K.scs, 0, none⟩) 2 K.scap) := h.cell 11
  have c12 : w.cell? ⟨K.e, 12, none⟩ = some (.int .i64 1) := by rw [h.cell 12, ← hsi]; rfl
  have H := Lib.hid h
  have HN := Lib.hid hn
  have HX := Lib.hid hx
  clear hn hx h
  go_enter Tryz.func19, Tryz.ntmps19
  go_wp2_with (go_at_call 31; refine (validPC_any c11 c12 (by decide)).mono ?_; rintro e w' ⟨rfl, d, rfl⟩)
  refine (HN.out d).mono ?_
  rintro e w1 ⟨rfl, p, s1, hp, hop, hb1, k1⟩
  obtain ⟨E1, T1⟩ := (H.out.drewN d).1.put (V' := V.tok p off' pos' (.slice dp dn dk)) rfl hb1 k1
  have T1 := (H.out.drewN d).2.trans T1
  have c19 : w1.cell? ⟨K.e, 19, none⟩ = some (.pointer (some ⟨p, 0, none⟩)) := E1.cell 19
  have c20 : w1.cell? ⟨K.e, 20, none⟩ = some (.slice dp dn dk) := E1.cell 20
  have hop0 : w1.cell? ⟨p, 0, none⟩ = some (.int .u8 v) := cell_at hop 0
  have hpl : Live K (V.tok p off' pos' (.slice dp dn dk)) w1.drew p := by
    obtain ⟨D, hD, _⟩ := H.out.row
    exact ⟨lt_of_block hop, Nat.ne_of_gt (Nat.lt_of_lt_of_le H.out.lt hp), fun e => Nat.lt_irrefl _ (Nat.lt_of_lt_of_le (hD.lt _ e) hp)⟩
  have H1 := Lib.hid E1
  have HT1 := Lib.hid T1
  clear E1 T1 hb1 hop k1
  go_wp2_with fail
  refine wp_region_still_tail 10 (by kernel_rfl) (by kernel_rfl) ?_
  simp only [List.take_succ_cons, List.take_zero, List.drop_succ_cons, List.drop_zero]
  change wpStill _ _ (World.drew _) _ _ _
  repeat still_step
  still_call ((data_any (o := 15) (w := w1.drew) c20).mono (by rintro e w ⟨rfl, rfl⟩; exact ⟨rfl, rfl⟩))
  repeat still_step
  refine wpStill_nil ?_
  change wpList _ _ _ _ _ (World.drew _)
  go_wp2_with fail
  refine (HX.out p w1.drew H1.out.drew.1 (HT1.out.trans H1.out.drew.2) hop0 hpl).mono ?_
  rintro e w2 ⟨⟨x, rfl⟩, V2, E2, T2⟩
  have HE2 := Lib.hid E2
  have HT2 := Lib.hid T2
  clear E2 T2
  go_wp2_with fail
  go_ret2
  exact ⟨x, V2, rfl, HE2.out, (HT1.out.trans H1.out.drew.2).trans HT2.out⟩
#print axioms step_die
end Go.Proofs.YtbnjggklinickaaGreatDoorR

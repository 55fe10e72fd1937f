import Derived.Test.YtaohcejbjeaemaaGreatDoorJNextEngA
import Derived.Test.YtaohcejbjeaemaaGreatDoorJStackNipB
import Derived.StillTailTactics
import Derived.Deep.QuietTactic
import Derived.BigQuiet
namespace Go.Proofs.YtaohcejbjeaemaaGreatDoor
open Go Go.RowKit

def badOps : List Int := [126, 127, 128, 129, 131, 132, 133, 134, 141, 142, 149, 150, 151, 152, 153]

theorem dis_any (v : Int) (w : World) (h : v ∉ badOps) : Calls Tryz.prog 65 #[.int .u8 v] w fun e w' => e = .returned (.bool false) ∧ w = w' := by
  simp only [badOps, List.mem_cons, List.not_mem_nil, or_false, not_or] at h
  obtain ⟨h1, h2, h3, h4, h5, h6, h7, h8, h9, h10, h11, h12, h13, h14, h15⟩ := h
  go_enter Tryz.func65, Tryz.ntmps65
  go_wp2
  go_ret
  exact ⟨rfl, rfl⟩

theorem ill_any (v : Int) (w : World) (h1 : v ≠ 101) (h2 : v ≠ 102) : Calls Tryz.prog 66 #[.int .u8 v] w fun e w' => e = .returned (.bool false) ∧ w = w' := by
  go_enter Tryz.func66, Tryz.ntmps66
  go_wp2
  go_ret
  exact ⟨rfl, rfl⟩

set_option maxHeartbeats 1000000 in
set_option maxRecDepth 100000 in
theorem exec_lo {K : EngK} {V : EngW} {E A : List (List Int)} {w : World} (h : EngA K V E A w) {p : Nat} {v : Int} (hv : w.cell? ⟨p, 0, none⟩ = some (.int .u8 v)) (h0 : 0 ≤ v) (h96 : v ≤ 96) {dp : Option Addr} {n k : Nat} (hn : n ≤ 520)
    {R : Ending → World → Prop} (hR : Calls Tryz.prog 70 #[.pointer (some ⟨p, 0, none⟩), .slice dp n k, .pointer (some ⟨K.e, 0, none⟩)] w R) (hr : ∀ e w', R e w' → ∃ v, e = .returned v) :
    Calls Tryz.prog 45 #[.pointer (some ⟨K.e, 0, none⟩), .pointer (some ⟨p, 0, none⟩), .slice dp n k] w R := by
  have c32 : w.cell? ⟨K.e, 32, none⟩ = some (.pointer none) := h.cell 32
  have c27 : w.cell? ⟨K.e, 27, none⟩ = some (.slice none 0 0) := h.cell 27
  have c24 : w.cell? ⟨K.e, 24, none⟩ = some (.bool false) := h.cell 24
  have hbad : v ∉ badOps := by simp only [badOps, List.mem_cons, List.not_mem_nil, or_false, not_or]; omega
  have hgt : decide ((v : Int) > 96) = false := by simp; omega
  have hgt' : decide ((96 : Int) < v) = false := by simp; omega
  have hcs : (v == 171) = false := by simp; omega
  have H := Lib.hid h
  have HR := Lib.hid hR
  clear h hR
  go_enter Tryz.func45, Tryz.ntmps45
  go_wp2_with first
    | (go_at_call 65; refine (dis_any _ _ hbad).mono ?_; rintro e w' ⟨rfl, rfl⟩)
    | (go_at_call 66; refine (ill_any _ _ (by omega) (by omega)).mono ?_; rintro e w' ⟨rfl, rfl⟩)
    | (go_at_call 67; refine (branch_any c27).mono ?_; rintro e w' ⟨rfl, rfl⟩)
  refine HR.out.mono ?_
  intro e' w' h
  obtain ⟨v, rfl⟩ := hr _ _ h
  have HR := Lib.hid h
  clear h
  go_wp2_with fail
  exact HR.out
set_option maxHeartbeats 1000000 in
set_option maxRecDepth 100000 in
theorem exec_hi {K : EngK} {V : EngW} {E A : List (List Int)} {w : World} (h : EngA K V E A w) {p : Nat} {v : Int} (hv : w.cell? ⟨p, 0, none⟩ = some (.int .u8 v)) (h0 : 96 < v) (hbad : v ∉ badOps) (hill : v ≠ 101 ∧ v ≠ 102 ∧ v ≠ 171) (hops : 0 ≤ V.nops ∧ V.nops ≤ 200) {dp : Option Addr} {n k : Nat}
    {R : Ending → World → Prop} (hR : Calls Tryz.prog 70 #[.pointer (some ⟨p, 0, none⟩), .slice dp n k, .pointer (some ⟨K.e, 0, none⟩)] (w.setCell ⟨K.e, 28, none⟩ (.int .i64 (V.nops + 1))) R) (hr : ∀ e w', R e w' → ∃ v, e = .returned v) :
    Calls Tryz.prog 45 #[.pointer (some ⟨K.e, 0, none⟩), .pointer (some ⟨p, 0, none⟩), .slice dp n k] w R := by
  have c32 : w.cell? ⟨K.e, 32, none⟩ = some (.pointer none) := h.cell 32
  have c27 : w.cell? ⟨K.e, 27, none⟩ = some (.slice none 0 0) := h.cell 27
  have c24 : w.cell? ⟨K.e, 24, none⟩ = some (.bool false) := h.cell 24
  obtain ⟨hi1, hi2, hi3⟩ := hill
  obtain ⟨ho1, ho2⟩ := hops
  have c28 : w.cell? ⟨K.e, 28, none⟩ = some (.int .i64 V.nops) := h.cell 28
  have hf : ∀ i, w.frozen? ⟨K.e, i, none⟩ = false := fun i => free_at h.blk i
  have c27' : (w.setCell ⟨K.e, 28, none⟩ (.int .i64 (V.nops + 1))).cell? ⟨K.e, 27, none⟩ = some (.slice none 0 0) := by rw [World.cell?_setCell_other _ _ _ _ (by simp)]; exact c27
  have hcs : (v == 171) = false := by simpa using hi3
  have H := Lib.hid h
  have HR := Lib.hid hR
  clear h hR
  go_enter Tryz.func45, Tryz.ntmps45
  go_wp2_with first
    | (go_at_call 65; refine (dis_any _ _ hbad).mono ?_; rintro e w' ⟨rfl, rfl⟩)
    | (go_at_call 66; refine (ill_any _ _ hi1 hi2).mono ?_; rintro e w' ⟨rfl, rfl⟩)
    | (go_at_call 67; refine (branch_any c27').mono ?_; rintro e w' ⟨rfl, rfl⟩) --.mono ?_; rintro e w' ⟨rfl, rfl⟩)
  refine HR.out.mono ?_
  intro e' w' h
  obtain ⟨v, rfl⟩ := hr _ _ h
  have HR := Lib.hid h
  clear h
  go_wp2_with fail
  exact HR.out
end Go.Proofs.YtaohcejbjeaemaaGreatDoor

namespace Go.Proofs.YtaohcejbjeaemaaGreatDoor
open Go Go.RowKit

theorem depth_q {b o : Nat} {w : World} {p : Option Addr} {n k : Nat} (hc : w.cell? ⟨b, o, none⟩ = some (.slice p n k)) (hn : n ≤ 1000000) (m : Nat) :
    Calls Tryz.prog 40 #[.pointer (some ⟨b, o, none⟩)] (w.drewN m) fun e w'' => e = .returned (.int .i32 n) ∧ ∃ m', w'' = w.drewN m' :=
  (depth_any (w := w.drewN m) (by exact hc) hn).mono (by rintro _ _ ⟨rfl, rfl⟩; exact ⟨rfl, m, rfl⟩)

/-- What the tokenizer's step asks and leaves. -/
def Nexts (K : EngK) (V : EngW) (v len : Int) (off' : Nat) (pos' : Int) (dat : Value) (w : World) : Prop :=
  ∀ d, Calls Tryz.prog 43 #[.pointer (some ⟨K.e, 15, none⟩)] (w.drewN d) fun e w' => e = .returned (.bool true) ∧ TokPost K.e 15 90 (cellsA K V) v len off' pos' dat (w.drewN d) w'

/-- The engine's state as the tokenizer's step leaves it. -/
def EngW.tok (V : EngW) (p : Nat) (off' : Nat) (pos' : Int) (dat : Value) : EngW := { V with off := off', pos := pos', op := .pointer (some ⟨p, 0, none⟩), dat := dat }

/-- What an opcode's execution asks and leaves. -/
def Does (K : EngK) (V : EngW) (E A : List (List Int)) (Q : List (List Int) → List (List Int) → Prop) (n' : Int) (v : Int) (off' : Nat) (pos' : Int) (dp : Option Addr) (dn dk : Nat) (w : World) : Prop :=
  ∀ p w1, EngA K (V.tok p off' pos' (.slice dp dn dk)) E A w1 → ToA K V w (V.tok p off' pos' (.slice dp dn dk)) w1 → w1.cell? ⟨p, 0, none⟩ = some (.int .u8 v) → LiveA K (V.tok p off' pos' (.slice dp dn dk)) w1 p →
    Calls Tryz.prog 45 #[.pointer (some ⟨K.e, 0, none⟩), .pointer (some ⟨p, 0, none⟩), .slice dp dn dk] w1 fun e w2 => e = .returned .nilIface ∧
      ∃ s t E' A', Q E' A' ∧ EngA K { (V.tok p off' pos' (.slice dp dn dk)) with stk := s, nops := n', alt := t } E' A' w2 ∧ ToA K (V.tok p off' pos' (.slice dp dn dk)) w1 { (V.tok p off' pos' (.slice dp dn dk)) with stk := s, nops := n', alt := t } w2

set_option maxHeartbeats 4000000 in
set_option maxRecDepth 100000 in
theorem step_any {K : EngK} {V : EngW} {E A : List (List Int)} {Q : List (List Int) → List (List Int) → Prop} {w : World} (h : EngA K V E A w) (hL : K.L ≤ 100000) {v len : Int} {off' : Nat} {pos' : Int} {dp : Option Addr} {dn dk : Nat} {n' : Int}
    (hsi : V.si = 1) (hoi : 0 ≤ V.oi ∧ V.oi ≤ 100000) (hle : off' ≤ K.L) (hE : ∀ E' A', Q E' A' → E'.length + A'.length ≤ 1000 ∧ (off' = K.L → A' = []))
    (hn : Nexts K V v len off' pos' (.slice dp dn dk) w) (hx : Does K V E A Q n' v off' pos' dp dn dk w) :
    Calls Tryz.prog 27 #[.pointer (some ⟨K.e, 0, none⟩)] w fun e w' =>
      (off' < K.L ∧ e = .returned (.tuple #[.bool false, .nilIface]) ∧ ∃ p s t E' A', Q E' A' ∧ EngA K { (V.tok p off' pos' (.slice dp dn dk)) with stk := s, nops := n', oi := V.oi + 1, alt := t } E' A' w' ∧ ToA K V w { (V.tok p off' pos' (.slice dp dn dk)) with stk := s, nops := n', oi := V.oi + 1, alt := t } w') ∨
      (off' = K.L ∧ e = .returned (.tuple #[.bool true, .nilIface]) ∧ ∃ p s t E' A', Q E' A' ∧ EngA K { (V.tok p off' pos' (.slice dp dn dk)) with stk := s, nops := 0, oi := 0, si := 2, alt := t } E' A' w' ∧ ToA K V w { (V.tok p off' pos' (.slice dp dn dk)) with stk := s, nops := 0, oi := 0, si := 2, alt := t } w') := by
  have c11 : w.cell? ⟨K.e, 11, none⟩ = some (.slice (some ⟨K.scs, 0, none⟩) 2 K.scap) := h.cell 11
  have c12 : w.cell? ⟨K.e, 12, none⟩ = some (.int .i64 1) := by rw [h.cell 12, ← hsi]; rfl
  have H := Lib.hid h
  have HN := Lib.hid hn
  have HX := Lib.hid hx
  clear hn hx h
  go_enter Tryz.func27, Tryz.ntmps27
  go_wp2_with (go_at_call 42; refine (validPC_any c11 c12 (by decide)).mono ?_; rintro e w' ⟨rfl, d, rfl⟩)
  refine (HN.out d).mono ?_
  rintro e w1 ⟨rfl, p, s1, hp, hop, hb1, k1⟩
  obtain ⟨E1, T1⟩ := (H.out.drewN d).1.put (V' := V.tok p off' pos' (.slice dp dn dk)) rfl rfl hb1 k1
  have T1 := (H.out.drewN d).2.trans T1
  have c19 : w1.cell? ⟨K.e, 19, none⟩ = some (.pointer (some ⟨p, 0, none⟩)) := E1.cell 19
  have c20 : w1.cell? ⟨K.e, 20, none⟩ = some (.slice dp dn dk) := E1.cell 20
  have hop0 : w1.cell? ⟨p, 0, none⟩ = some (.int .u8 v) := cell_at hop 0
  have hpl : LiveA K (V.tok p off' pos' (.slice dp dn dk)) w1.drew p := by
    obtain ⟨D, hD, _⟩ := H.out.row
    obtain ⟨DA, hDA, _⟩ := H.out.arow
    exact ⟨lt_of_block hop, Nat.ne_of_gt (Nat.lt_of_lt_of_le H.out.lt hp), fun e => Nat.lt_irrefl _ (Nat.lt_of_lt_of_le (hD.lt _ e) hp), fun e => Nat.lt_irrefl _ (Nat.lt_of_lt_of_le (hDA.lt _ e) hp)⟩
  have H1 := Lib.hid E1
  have HT1 := Lib.hid T1
  clear E1 T1 hb1 hop k1
  go_wp2_with fail
  refine wp_region_still_tail 10 (by kernel_rfl) (by kernel_rfl) ?_
  simp only [List.take_succ_cons, List.take_zero, List.drop_succ_cons, List.drop_zero]
  change wpStill _ _ (World.drew _) _ _ _
  repeat still_step
  still_call ((data_any (o := 15) (w := w1.drew) c20).mono (by rintro e w ⟨rfl, rfl⟩; exact ⟨rfl, rfl⟩))
  repeat still_step
  refine wpStill_nil ?_
  change wpList _ _ _ _ _ (World.drew _)
  go_wp2_with fail
  refine (HX.out p w1.drew H1.out.drew.1 (HT1.out.trans H1.out.drew.2) hop0 hpl).mono ?_
  rintro e w2 ⟨rfl, s, t, E', A', hq, E2, T2⟩
  obtain ⟨hE', hA⟩ := hE E' A' hq
  have HQ := Lib.hid hq
  clear hq
  obtain ⟨D2, hD2, hE2⟩ := E2.row
  obtain ⟨A2, hA2, hEA2⟩ := E2.arow
  have hl2 : D2.length + A2.length ≤ 1000 := by rw [hE2.length, hEA2.length]; exact hE'
  have c23 : w2.cell? ⟨K.e, 23, none⟩ = some s := E2.cell 23
  have c25 : w2.cell? ⟨K.e, 25, none⟩ = some t := E2.cell 25
  have c13 : w2.cell? ⟨K.e, 13, none⟩ = some (.int .i64 V.oi) := E2.cell 13
  have hf : w2.frozen? ⟨K.e, 13, none⟩ = false := free_at E2.blk 13
  have ⟨sp, sk, hs⟩ : ∃ sp sk, s = .slice sp D2.length sk := by
    rcases hD2.form with ⟨h1, rfl⟩ | ⟨g, cap, cur, h1, _⟩
    · exact ⟨none, 0, h1⟩
    · exact ⟨_, _, h1⟩
  have ⟨ap, ak, has⟩ : ∃ ap ak, t = .slice ap A2.length ak := by
    rcases hA2.form with ⟨h1, rfl⟩ | ⟨g, cap, cur, h1, _⟩
    · exact ⟨none, 0, h1⟩
    · exact ⟨_, _, h1⟩
  have hA0 : off' = K.L → A2.length = 0 := fun e => by rw [hEA2.length, hA e]; rfl
  clear hA
  have HE2 := Lib.hid E2
  have HT2 := Lib.hid T2
  clear E2 T2 hE2 hD2 hEA2 hA2
  rw [hs] at c23
  rw [has] at c25
  generalize hAl : A2.length = al at *
  generalize hDl : D2.length = dl at *
  have hdl : dl ≤ 1000000 := by omega
  have hal : al ≤ 1000000 := by omega
  have hgt : decide ((dl : Int) + (al : Int) > 1000) = false := by simp; omega
  have hgt' : decide ((1000 : Int) < (dl : Int) + (al : Int)) = false := by simp; omega
  have hwr1 : IntKind.i32.wrap ((dl : Int) + (al : Int)) = (dl : Int) + (al : Int) := by rw [IntKind.wrap_i32]; omega
  go_wp2_with fail
  go_quiet (first
    | (go_at_call 40; exact depth_q c23 hdl _)
    | (go_at_call 40; exact depth_q c25 hal _))
  clear hwr1
  go_wp2_with fail
  obtain ⟨E3, T3⟩ := (HE2.out.drewN nq).1.put (w' := (w2.drewN nq).setCell ⟨K.e, 13, none⟩ (.int .i64 (V.oi + 1))) (V' := { (V.tok p off' pos' (.slice dp dn dk)) with stk := s, nops := n', oi := V.oi + 1, alt := t }) rfl rfl
    (block_setCell (HE2.out.drewN nq).1.blk _ _) (Kept.setCell (Kept.refl _ _) (fun h => h.2 rfl) _)
  have T3 := (HE2.out.drewN nq).2.trans T3
  refine (done_any (o := 15) (off := (off' : Int)) (E3.cell 15) (by omega) (E3.cell 17) (E3.cell 21)).mono ?_
  rintro e w4 ⟨rfl, d4, hw4⟩
  have E4 := (E3.drewN d4).1
  have T4 := (HT1.out.trans H1.out.drew.2).trans (HT2.out.trans (T3.trans (E3.drewN d4).2))
  rw [← hw4] at E4 T4
  clear hw4
  clear E3 T3 hE hE'
  rcases Nat.lt_or_ge off' K.L with hlt | hge
  · have hd : decide ((K.L : Int) ≤ (off' : Int)) = false := by simp; omega
    have HE4 := Lib.hid E4
    have HT4 := Lib.hid T4
    clear E4 T4
    go_wp2_with fail
    go_ret2
    exact .inl ⟨hlt, rfl, p, s, t, E', A', HQ.out, HE4.out, HT4.out⟩
  · have hd : decide ((K.L : Int) ≤ (off' : Int)) = true := by simp; omega
    have hz : al = 0 := hA0 (Nat.le_antisymm hle hge)
    have hdc : ∀ wx : World, wx.cell? ⟨K.e, 25, none⟩ = some (.slice ap 0 ak) → Calls Tryz.prog 40 #[.pointer (some ⟨K.e, 25, none⟩)] wx fun e w'' => e = .returned (.int .i32 ((0 : Nat) : Int)) ∧ w'' = wx :=
      fun wx hc => (depth_any (o := 25) hc (by decide)).mono (by rintro _ _ ⟨rfl, rfl⟩; exact ⟨rfl, rfl⟩)
    have c27 : w4.cell? ⟨K.e, 27, none⟩ = some (.slice none 0 0) := E4.cell 27
    have c25' : w4.drew.cell? ⟨K.e, 25, none⟩ = some (.slice ap 0 ak) := by rw [← hz, ← has]; exact E4.cell 25
    have HE4 := Lib.hid E4
    have HT4 := Lib.hid T4
    clear E4 T4
    go_wp2_with fail
    refine wp_region_still_tail 7 (by kernel_rfl) (by kernel_rfl) ?_
    simp only [List.take_succ_cons, List.take_zero, List.drop_succ_cons, List.drop_zero]
    change wpStill _ _ (World.drew _) _ _ _
    repeat still_step
    still_call (hdc _ c25')
    repeat still_step
    refine wpStill_nil ?_
    change wpList _ _ _ _ _ (World.drew _)
    go_wp2_with fail
    refine drop_zero.mono ?_
    rintro e w5 ⟨x, rfl, B5⟩
    have hb5 := B5.block K.e HE4.out.drew.1.lt
    obtain ⟨E5, T5⟩ := HE4.out.drew.1.put rfl rfl (hb5.trans HE4.out.drew.1.blk) ((kept_of_below B5).mono fun k hk => hk.1)
    have c12' : w5.cell? ⟨K.e, 12, none⟩ = some (.int .i64 1) := by rw [E5.cell 12, ← hsi]; rfl
    have c11' : w5.cell? ⟨K.e, 11, none⟩ = some (.slice (some ⟨K.scs, 0, none⟩) 2 K.scap) := E5.cell 11
    have c28' : w5.cell? ⟨K.e, 28, none⟩ = some (.int .i64 n') := E5.cell 28
    have c13' : w5.cell? ⟨K.e, 13, none⟩ = some (.int .i64 (V.oi + 1)) := E5.cell 13
    have c14' : w5.cell? ⟨K.e, 14, none⟩ = some (.int .i64 0) := E5.cell 14
    have c7' : w5.cell? ⟨K.e, 7, none⟩ = some (.bool false) := E5.cell 7
    have c30' : w5.cell? ⟨K.e, 30, none⟩ = some (.slice none 0 0) := E5.cell 30
    have hf5 : ∀ i, w5.frozen? ⟨K.e, i, none⟩ = false := fun i => free_at E5.blk i
    have HE5 := Lib.hid E5
    have HT5 := Lib.hid (HT4.out.trans (HE4.out.drew.2.trans T5))
    clear E5 T5 B5
    go_wp2_with fail
    obtain ⟨E6, T6⟩ := HE5.out.put (w' := ((w5.setCell ⟨K.e, 28, none⟩ (.int .i64 0)).setCell ⟨K.e, 13, none⟩ (.int .i64 0)).setCell ⟨K.e, 12, none⟩ (.int .i64 2))
      (V' := { (V.tok p off' pos' (.slice dp dn dk)) with stk := s, nops := 0, oi := 0, si := 2, alt := t }) rfl rfl
      (block_setCell (block_setCell (block_setCell HE5.out.blk _ _) _ _) _ _) (Kept.setCell (Kept.setCell (Kept.setCell (Kept.refl _ _) (fun h => h.2 rfl) _) (fun h => h.2 rfl) _) (fun h => h.2 rfl) _)
    have T6 := HT5.out.trans T6
    generalize hw6 : ((w5.setCell ⟨K.e, 28, none⟩ (.int .i64 0)).setCell ⟨K.e, 13, none⟩ (.int .i64 0)).setCell ⟨K.e, 12, none⟩ (.int .i64 2) = w6 at *
    clear hw6 c12' c13' c14' c11' c7' c30' c28' hf5
    have c12' : w6.cell? ⟨K.e, 12, none⟩ = some (.int .i64 2) := E6.cell 12
    have c11' : w6.cell? ⟨K.e, 11, none⟩ = some (.slice (some ⟨K.scs, 0, none⟩) 2 K.scap) := E6.cell 11
    have c14' : w6.cell? ⟨K.e, 14, none⟩ = some (.int .i64 0) := E6.cell 14
    have hf6 : ∀ i, w6.frozen? ⟨K.e, i, none⟩ = false := fun i => free_at E6.blk i
    have h22 : decide ((2 : Int) < ((2 : Nat) : Int)) = false := by decide
    have HE6 := Lib.hid E6
    have HT6 := Lib.hid T6
    clear E6 T6
    go_quiet (fail)
    generalize nq = nq6
    go_wp2_with fail
    go_quiet (fail)
    generalize nq = nq7
    go_wp2_with fail
    go_ret2
    obtain ⟨E7, T7⟩ := (HE6.out.drewN nq6).1.put (w' := (w6.drewN nq6).setCell ⟨K.e, 14, none⟩ (.int .i64 0)) (V' := { (V.tok p off' pos' (.slice dp dn dk)) with stk := s, nops := 0, oi := 0, si := 2, alt := t }) rfl rfl
      (block_setCell (HE6.out.drewN nq6).1.blk _ _) (Kept.setCell (Kept.refl _ _) (fun h => h.2 rfl) _)
    exact .inr ⟨Nat.le_antisymm hle hge, rfl, p, s, t, E', A', HQ.out, (E7.drewN nq7).1, HT6.out.trans ((HE6.out.drewN nq6).2.trans (T7.trans (E7.drewN nq7).2))⟩
end Go.Proofs.YtaohcejbjeaemaaGreatDoor

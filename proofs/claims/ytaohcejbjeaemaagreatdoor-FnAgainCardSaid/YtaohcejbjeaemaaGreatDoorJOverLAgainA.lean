import Derived.Test.YtaohcejbjeaemaaGreatDoorJShaTScript
import Derived.Test.YtaohcejbjeaemaaGreatDoorJSetEOver
import Derived.Test.YtaohcejbjeaemaaGreatDoorJAloneA
import Derived.Test.YtaohcejbjeaemaaGreatDoorJOprsTurns
namespace Go.Proofs.YtaohcejbjeaemaaGreatDoor
open Go Go.RowKit

/-- What laws.over answers here: no error, and the stack that was. -/
def OverLPost (E : List (List Int)) (w : World) (e : Ending) (w' : World) : Prop :=
  ∃ g c, e = .returned (.tuple #[.int .i64 0, .slice (some ⟨g, 0, none⟩) E.length c]) ∧ E.length ≤ c ∧ c ≤ maxLen ∧ AllAt w' g 0 E ∧ Below w.heap.size w w'

set_option maxHeartbeats 400000 in
set_option maxRecDepth 100000 in
theorem overL_any {TK : EngK → Prop} (hsha : Sha TK) {w : World} (hTK : ∀ K : EngK, (∀ a v, w.cell? a = some v → K.mem a v) → TK K) {y : Value} {ks : List Nat} (hks : ks.length ≤ 20) {bs : List Int} (hbs : bs = ks.flatMap turnOf) (hy0 : bs = [] → y = .slice none 0 0) (hy : Elem (fun k => k < w.heap.size) w y bs)
    {b o k' : Nat} {E : List (List Int)} (hst : ∀ i e, E[i]? = some e → ∃ p m k, w.cell? ⟨b, o + i, none⟩ = some (.slice p m k) ∧ Elem (fun k => k < w.heap.size) w (.slice p m k) e) (hE : ∀ e ∈ E, e.length ≤ 520) (h6 : 6 ≤ E.length) (h300 : E.length ≤ 300) :
    Calls Tryz.prog 7 #[.slice (some ⟨b, o, none⟩) E.length k', y, .int .u32 0] w (OverLPost E w) := by
  have hl : bs.length ≤ 80 := by rw [hbs]; have := turns_len ks; omega
  have HBS := Lib.hid hbs
  clear hbs
  have HA := Lib.hid (alone_any hy0 hy (by omega))
  have HST := Lib.hid hst
  have HE := Lib.hid hE
  have HT := Lib.hid hTK
  clear hy0 hy hst hE hTK
  go_enter Tryz.func7, Tryz.ntmps7
  go_wp2_with fail
  refine HA.out.mono ?_
  rintro e w1 ⟨p, k1, gi, go, rfl, hb1, hx1, hgi, hgo, hne, hpg, hin, hout⟩
  have hst1 : ∀ i e, E[i]? = some e → ∃ p m k, w1.cell? ⟨b, o + i, none⟩ = some (.slice p m k) ∧ Elem (fun k => k < w1.heap.size) w1 (.slice p m k) e := fun i e he => by
    obtain ⟨p, m, k, c1, x1⟩ := HST.out i e he
    exact ⟨p, m, k, (World.cell?_of_block (a := ⟨b, o + i, none⟩) (hb1.block b (World.block_lt_of_cell? _ _ c1))).trans c1, (x1.kept (kept_of_below hb1)).mono (fun k hk => Nat.lt_of_lt_of_le hk hb1.size)⟩
  have hlen : 0 < (bs ++ [81]).length ∧ (bs ++ [81]).length ≤ 10000 := by rw [List.length_append, List.length_singleton]; omega
  have hE0 : 0 < E.length := by omega
  have hE1 : E.length ≤ 100000 := by omega
  have hEb : ∀ e ∈ E, e.length ≤ 1000000 := fun e he => Nat.le_trans (HE.out e he) (by decide)
  have hgo : ∀ K V w2, (∀ a v, w1.cell? a = some v → K.mem a v) → EngA K V E [] w2 → V.si = 1 → V.oi = 0 → V.off = 0 → V.pos = -1 → V.nops = 0 → EngineOf K (bs ++ [81]) 2 100 0 → Goes K.e (LetA K V E w2) (bs.length + 1) w2 :=
    fun K V w2 hm hE2 g1 g2 g3 g4 g5 ho => by
      have hb := HBS.out
      subst hb
      exact goes_turns hsha ho (HT.out K (fun a v h => hm a v ((World.cell?_of_block (hb1.block a.block (World.block_lt_of_cell? _ _ h))).trans h))) hks h6 (by omega) HE.out hE2 g1 g2 g3 g4 g5
  have ho := (over_any (M := fun k => k < w1.heap.size) (w := w1) (p := p) (k := k1) (bs := bs ++ [81]) (gi := gi) (go := go) (k' := k') (amt := 0) (ver := 2) (lock := 100) (sq := 100) (rules := 0) (gk := 1) (gok := 1) (b := b) (o := o) (E := E) (F := E) (n := bs.length + 1) (hx1.mono (fun k hk => hk.2)) (fun k hk => hk) (HBS.out ▸ script_turns ks) hlen hin hout noFlags_0 hst1 hEb hE0 hE1 hE0 hE1 hEb hgo)
  rw [List.length_append, List.length_singleton] at ho
  have HO := Lib.hid ho
  clear hlen hE0 hE1 hEb hgo ho
  have HB1 := Lib.hid hb1
  clear hb1 hx1 hgi hgo hne hpg hin hout hst1 HA
  go_wp2_with fail
  refine HO.out.mono ?_
  rintro e w2 ⟨g, c, v, rfl, hc1, hc2, hA, hb2⟩
  have HB2 := Lib.hid (HB1.out.trans (hb2.mono HB1.out.size))
  have HA2 := Lib.hid hA
  clear hb2 hA
  go_wp2_with fail
  go_ret2
  exact ⟨g, c, rfl, hc1, hc2, HA2.out, HB2.out⟩
end Go.Proofs.YtaohcejbjeaemaaGreatDoor
namespace Go.Proofs.YtaohcejbjeaemaaGreatDoor
open Go Go.RowKit

theorem elem_lit {w0 w : World} {b : Nat} {bs : List Int} (h : w.heap[b]? = some (.cells (bs.map (Value.int .u8)).toArray 5 (0, 0))) (h0 : w0.heap.size ≤ b) (hb : ∀ m ∈ bs, 0 ≤ m ∧ m ≤ 255) (hl : bs.length ≤ 100) : Elem (NewIn w0 w) w (.slice (some ⟨b, 0, none⟩) bs.length bs.length) bs := by
  refine ⟨_, _, rfl, Nat.le_refl _, by unfold maxLen; omega, by simp, hb, fun _ => ⟨b, 0, rfl, ⟨h0, lt_of_block h⟩, fun i hi => ?_⟩⟩
  rw [cell_at h]
  simp [hi]

theorem turn_place (n : Int) : ∃ k : Nat, wrap64 ((IntKind.u64.wrap n).tmod 21) = k ∧ k < 21 := by
  have h0 : 0 ≤ IntKind.u64.wrap n := by rw [IntKind.wrap_u64]; omega
  have e : (IntKind.u64.wrap n).tmod 21 = IntKind.u64.wrap n % 21 := Int.tmod_eq_emod_of_nonneg h0
  refine ⟨(IntKind.u64.wrap n % 21).toNat, ?_, by omega⟩
  rw [e]
  unfold wrap64
  omega

set_option maxHeartbeats 8000000 in
set_option maxRecDepth 100000 in
theorem again_any (n : Int) (w : World) : Calls Tryz.prog 6 #[.int .i64 n] w fun e w' => ∃ (k : Nat) (v : Value), e = .returned v ∧ k < 21 ∧ Below w.heap.size w w' ∧ Elem (NewIn w w') w' v (turnOf k) := by
  obtain ⟨k, hk, hlt⟩ := turn_place n
  go_enter Tryz.func6, Tryz.ntmps6
  go_upto_region 2 with (fail)
  obtain ⟨w1, hw1⟩ : ∃ w1, w1 = (((((((((((((((((((((w.alloc (.cells #[.int .u8 124, .int .u8 124] 5)).alloc (.cells #[.int .u8 123, .int .u8 123, .int .u8 123] 5)).alloc (.cells #[.int .u8 114, .int .u8 114] 5)).alloc (.cells #[.int .u8 113, .int .u8 113, .int .u8 113] 5)).alloc (.cells #[.int .u8 118, .int .u8 117] 5)).alloc (.cells #[.int .u8 120, .int .u8 117] 5)).alloc (.cells #[.int .u8 110, .int .u8 109] 5)).alloc (.cells #[.int .u8 112, .int .u8 109] 5)).alloc (.cells #[.int .u8 111, .int .u8 109, .int .u8 117] 5)).alloc (.cells #[.int .u8 125, .int .u8 117, .int .u8 124] 5)).alloc (.cells #[.int .u8 107, .int .u8 108] 5)).alloc (.cells #[.int .u8 107, .int .u8 107, .int .u8 108, .int .u8 108] 5)).alloc (.cells #[.int .u8 130, .int .u8 117] 5)).alloc (.cells #[.int .u8 118, .int .u8 119] 5)).alloc (.cells #[.int .u8 82, .int .u8 122, .int .u8 123, .int .u8 123] 5)).alloc (.cells #[.int .u8 0, .int .u8 121, .int .u8 117] 5)).alloc (.cells #[.int .u8 0, .int .u8 122] 5)).alloc (.cells #[.int .u8 81, .int .u8 122, .int .u8 124] 5)).alloc (.cells #[.int .u8 85, .int .u8 121, .int .u8 117] 5)).alloc (.cells #[.int .u8 118, .int .u8 168, .int .u8 117] 5)).alloc (.cells #[.int .u8 118, .int .u8 118, .int .u8 136] 5)).alloc (.cells #[.slice (some ⟨w.heap.size, 0, none⟩) 2 2, .slice (some ⟨w.heap.size + 1, 0, none⟩) 3 3, .slice (some ⟨w.heap.size + 1 + 1, 0, none⟩) 2 2, .slice (some ⟨w.heap.size + 1 + 1 + 1, 0, none⟩) 3 3, .slice (some ⟨w.heap.size + 1 + 1 + 1 + 1, 0, none⟩) 2 2, .slice (some ⟨w.heap.size + 1 + 1 + 1 + 1 + 1, 0, none⟩) 2 2, .slice (some ⟨w.heap.size + 1 + 1 + 1 + 1 + 1 + 1, 0, none⟩) 2 2, .slice (some ⟨w.heap.size + 1 + 1 + 1 + 1 + 1 + 1 + 1, 0, none⟩) 2 2, .slice (some ⟨w.heap.size + 1 + 1 + 1 + 1 + 1 + 1 + 1 + 1, 0, none⟩) 3 3, .slice (some ⟨w.heap.size + 1 + 1 + 1 + 1 + 1 + 1 + 1 + 1 + 1, 0, none⟩) 3 3, .slice (some ⟨w.heap.size + 1 + 1 + 1 + 1 + 1 + 1 + 1 + 1 + 1 + 1, 0, none⟩) 2 2, .slice (some ⟨w.heap.size + 1 + 1 + 1 + 1 + 1 + 1 + 1 + 1 + 1 + 1 + 1, 0, none⟩) 4 4, .slice (some ⟨w.heap.size + 1 + 1 + 1 + 1 + 1 + 1 + 1 + 1 + 1 + 1 + 1 + 1, 0, none⟩) 2 2, .slice (some ⟨w.heap.size + 1 + 1 + 1 + 1 + 1 + 1 + 1 + 1 + 1 + 1 + 1 + 1 + 1, 0, none⟩) 2 2, .slice (some ⟨w.heap.size + 1 + 1 + 1 + 1 + 1 + 1 + 1 + 1 + 1 + 1 + 1 + 1 + 1 + 1, 0, none⟩) 4 4, .slice (some ⟨w.heap.size + 1 + 1 + 1 + 1 + 1 + 1 + 1 + 1 + 1 + 1 + 1 + 1 + 1 + 1 + 1, 0, none⟩) 3 3, .slice (some ⟨w.heap.size + 1 + 1 + 1 + 1 + 1 + 1 + 1 + 1 + 1 + 1 + 1 + 1 + 1 + 1 + 1 + 1, 0, none⟩) 2 2, .slice (some ⟨w.heap.size + 1 + 1 + 1 + 1 + 1 + 1 + 1 + 1 + 1 + 1 + 1 + 1 + 1 + 1 + 1 + 1 + 1, 0, none⟩) 3 3, .slice (some ⟨w.heap.size + 1 + 1 + 1 + 1 + 1 + 1 + 1 + 1 + 1 + 1 + 1 + 1 + 1 + 1 + 1 + 1 + 1 + 1, 0, none⟩) 3 3, .slice (some ⟨w.heap.size + 1 + 1 + 1 + 1 + 1 + 1 + 1 + 1 + 1 + 1 + 1 + 1 + 1 + 1 + 1 + 1 + 1 + 1 + 1, 0, none⟩) 3 3, .slice (some ⟨w.heap.size + 1 + 1 + 1 + 1 + 1 + 1 + 1 + 1 + 1 + 1 + 1 + 1 + 1 + 1 + 1 + 1 + 1 + 1 + 1 + 1, 0, none⟩) 3 3] 25) := ⟨_, rfl⟩
  rw [← hw1]
  have h0 : w1.heap[w.heap.size]? = some (.cells #[.int .u8 124, .int .u8 124] 5 (0, 0)) := by rw [hw1]; exact block_alloc (block_alloc (block_alloc (block_alloc (block_alloc (block_alloc (block_alloc (block_alloc (block_alloc (block_alloc (block_alloc (block_alloc (block_alloc (block_alloc (block_alloc (block_alloc (block_alloc (block_alloc (block_alloc (block_alloc (block_alloc (block_new _ _) _) _) _) _) _) _) _) _) _) _) _) _) _) _) _) _) _) _) _) _) _
  have h1 : w1.heap[w.heap.size + 1]? = some (.cells #[.int .u8 123, .int .u8 123, .int .u8 123] 5 (0, 0)) := by rw [hw1]; exact block_alloc (block_alloc (block_alloc (block_alloc (block_alloc (block_alloc (block_alloc (block_alloc (block_alloc (block_alloc (block_alloc (block_alloc (block_alloc (block_alloc (block_alloc (block_alloc (block_alloc (block_alloc (block_alloc (block_alloc (block_new_at _ _ _ (by simp)) _) _) _) _) _) _) _) _) _) _) _) _) _) _) _) _) _) _) _) _
  have h2 : w1.heap[w.heap.size + 1 + 1]? = some (.cells #[.int .u8 114, .int .u8 114] 5 (0, 0)) := by rw [hw1]; exact block_alloc (block_alloc (block_alloc (block_alloc (block_alloc (block_alloc (block_alloc (block_alloc (block_alloc (block_alloc (block_alloc (block_alloc (block_alloc (block_alloc (block_alloc (block_alloc (block_alloc (block_alloc (block_alloc (block_new_at _ _ _ (by simp)) _) _) _) _) _) _) _) _) _) _) _) _) _) _) _) _) _) _) _
  have h3 : w1.heap[w.heap.size + 1 + 1 + 1]? = some (.cells #[.int .u8 113, .int .u8 113, .int .u8 113] 5 (0, 0)) := by rw [hw1]; exact block_alloc (block_alloc (block_alloc (block_alloc (block_alloc (block_alloc (block_alloc (block_alloc (block_alloc (block_alloc (block_alloc (block_alloc (block_alloc (block_alloc (block_alloc (block_alloc (block_alloc (block_alloc (block_new_at _ _ _ (by simp)) _) _) _) _) _) _) _) _) _) _) _) _) _) _) _) _) _) _
  have h4 : w1.heap[w.heap.size + 1 + 1 + 1 + 1]? = some (.cells #[.int .u8 118, .int .u8 117] 5 (0, 0)) := by rw [hw1]; exact block_alloc (block_alloc (block_alloc (block_alloc (block_alloc (block_alloc (block_alloc (block_alloc (block_alloc (block_alloc (block_alloc (block_alloc (block_alloc (block_alloc (block_alloc (block_alloc (block_alloc (block_new_at _ _ _ (by simp)) _) _) _) _) _) _) _) _) _) _) _) _) _) _) _) _) _
  have h5 : w1.heap[w.heap.size + 1 + 1 + 1 + 1 + 1]? = some (.cells #[.int .u8 120, .int .u8 117] 5 (0, 0)) := by rw [hw1]; exact block_alloc (block_alloc (block_alloc (block_alloc (block_alloc (block_alloc (block_alloc (block_alloc (block_alloc (block_alloc (block_alloc (block_alloc (block_alloc (block_alloc (block_alloc (block_alloc (block_new_at _ _ _ (by simp)) _) _) _) _) _) _) _) _) _) _) _) _) _) _) _) _
  have h6 : w1.heap[w.heap.size + 1 + 1 + 1 + 1 + 1 + 1]? = some (.cells #[.int .u8 110, .int .u8 109] 5 (0, 0)) := by rw [hw1]; exact block_alloc (block_alloc (block_alloc (block_alloc (block_alloc (block_alloc (block_alloc (block_alloc (block_alloc (block_alloc (block_alloc (block_alloc (block_alloc (block_alloc (block_alloc (block_new_at _ _ _ (by simp)) _) _) _) _) _) _) _) _) _) _) _) _) _) _) _
  have h7 : w1.heap[w.heap.size + 1 + 1 + 1 + 1 + 1 + 1 + 1]? = some (.cells #[.int .u8 112, .int .u8 109] 5 (0, 0)) := by rw [hw1]; exact block_alloc (block_alloc (block_alloc (block_alloc (block_alloc (block_alloc (block_alloc (block_alloc (block_alloc (block_alloc (block_alloc (block_alloc (block_alloc (block_alloc (block_new_at _ _ _ (by simp)) _) _) _) _) _) _) _) _) _) _) _) _) _) _
  have h8 : w1.heap[w.heap.size + 1 + 1 + 1 + 1 + 1 + 1 + 1 + 1]? = some (.cells #[.int .u8 111, .int .u8 109, .int .u8 117] 5 (0, 0)) := by rw [hw1]; exact block_alloc (block_alloc (block_alloc (block_alloc (block_alloc (block_alloc (block_alloc (block_alloc (block_alloc (block_alloc (block_alloc (block_alloc (block_alloc (block_new_at _ _ _ (by simp)) _) _) _) _) _) _) _) _) _) _) _) _) _
  have h9 : w1.heap[w.heap.size + 1 + 1 + 1 + 1 + 1 + 1 + 1 + 1 + 1]? = some (.cells #[.int .u8 125, .int .u8 117, .int .u8 124] 5 (0, 0)) := by rw [hw1]; exact block_alloc (block_alloc (block_alloc (block_alloc (block_alloc (block_alloc (block_alloc (block_alloc (block_alloc (block_alloc (block_alloc (block_alloc (block_new_at _ _ _ (by simp)) _) _) _) _) _) _) _) _) _) _) _) _
  have h10 : w1.heap[w.heap.size + 1 + 1 + 1 + 1 + 1 + 1 + 1 + 1 + 1 + 1]? = some (.cells #[.int .u8 107, .int .u8 108] 5 (0, 0)) := by rw [hw1]; exact block_alloc (block_alloc (block_alloc (block_alloc (block_alloc (block_alloc (block_alloc (block_alloc (block_alloc (block_alloc (block_alloc (block_new_at _ _ _ (by simp)) _) _) _) _) _) _) _) _) _) _) _
  have h11 : w1.heap[w.heap.size + 1 + 1 + 1 + 1 + 1 + 1 + 1 + 1 + 1 + 1 + 1]? = some (.cells #[.int .u8 107, .int .u8 107, .int .u8 108, .int .u8 108] 5 (0, 0)) := by rw [hw1]; exact block_alloc (block_alloc (block_alloc (block_alloc (block_alloc (block_alloc (block_alloc (block_alloc (block_alloc (block_alloc (block_new_at _ _ _ (by simp)) _) _) _) _) _) _) _) _) _) _
  have h12 : w1.heap[w.heap.size + 1 + 1 + 1 + 1 + 1 + 1 + 1 + 1 + 1 + 1 + 1 + 1]? = some (.cells #[.int .u8 130, .int .u8 117] 5 (0, 0)) := by rw [hw1]; exact block_alloc (block_alloc (block_alloc (block_alloc (block_alloc (block_alloc (block_alloc (block_alloc (block_alloc (block_new_at _ _ _ (by simp)) _) _) _) _) _) _) _) _) _
  have h13 : w1.heap[w.heap.size + 1 + 1 + 1 + 1 + 1 + 1 + 1 + 1 + 1 + 1 + 1 + 1 + 1]? = some (.cells #[.int .u8 118, .int .u8 119] 5 (0, 0)) := by rw [hw1]; exact block_alloc (block_alloc (block_alloc (block_alloc (block_alloc (block_alloc (block_alloc (block_alloc (block_new_at _ _ _ (by simp)) _) _) _) _) _) _) _) _
  have h14 : w1.heap[w.heap.size + 1 + 1 + 1 + 1 + 1 + 1 + 1 + 1 + 1 + 1 + 1 + 1 + 1 + 1]? = some (.cells #[.int .u8 82, .int .u8 122, .int .u8 123, .int .u8 123] 5 (0, 0)) := by rw [hw1]; exact block_alloc (block_alloc (block_alloc (block_alloc (block_alloc (block_alloc (block_alloc (block_new_at _ _ _ (by simp)) _) _) _) _) _) _) _
  have h15 : w1.heap[w.heap.size + 1 + 1 + 1 + 1 + 1 + 1 + 1 + 1 + 1 + 1 + 1 + 1 + 1 + 1 + 1]? = some (.cells #[.int .u8 0, .int .u8 121, .int .u8 117] 5 (0, 0)) := by rw [hw1]; exact block_alloc (block_alloc (block_alloc (block_alloc (block_alloc (block_alloc (block_new_at _ _ _ (by simp)) _) _) _) _) _) _
  have h16 : w1.heap[w.heap.size + 1 + 1 + 1 + 1 + 1 + 1 + 1 + 1 + 1 + 1 + 1 + 1 + 1 + 1 + 1 + 1]? = some (.cells #[.int .u8 0, .int .u8 122] 5 (0, 0)) := by rw [hw1]; exact block_alloc (block_alloc (block_alloc (block_alloc (block_alloc (block_new_at _ _ _ (by simp)) _) _) _) _) _
  have h17 : w1.heap[w.heap.size + 1 + 1 + 1 + 1 + 1 + 1 + 1 + 1 + 1 + 1 + 1 + 1 + 1 + 1 + 1 + 1 + 1]? = some (.cells #[.int .u8 81, .int .u8 122, .int .u8 124] 5 (0, 0)) := by rw [hw1]; exact block_alloc (block_alloc (block_alloc (block_alloc (block_new_at _ _ _ (by simp)) _) _) _) _
  have h18 : w1.heap[w.heap.size + 1 + 1 + 1 + 1 + 1 + 1 + 1 + 1 + 1 + 1 + 1 + 1 + 1 + 1 + 1 + 1 + 1 + 1]? = some (.cells #[.int .u8 85, .int .u8 121, .int .u8 117] 5 (0, 0)) := by rw [hw1]; exact block_alloc (block_alloc (block_alloc (block_new_at _ _ _ (by simp)) _) _) _
  have h19 : w1.heap[w.heap.size + 1 + 1 + 1 + 1 + 1 + 1 + 1 + 1 + 1 + 1 + 1 + 1 + 1 + 1 + 1 + 1 + 1 + 1 + 1]? = some (.cells #[.int .u8 118, .int .u8 168, .int .u8 117] 5 (0, 0)) := by rw [hw1]; exact block_alloc (block_alloc (block_new_at _ _ _ (by simp)) _) _
  have h20 : w1.heap[w.heap.size + 1 + 1 + 1 + 1 + 1 + 1 + 1 + 1 + 1 + 1 + 1 + 1 + 1 + 1 + 1 + 1 + 1 + 1 + 1 + 1]? = some (.cells #[.int .u8 118, .int .u8 118, .int .u8 136] 5 (0, 0)) := by rw [hw1]; exact block_alloc (block_new_at _ _ _ (by simp)) _
  have hL : w1.heap[w.heap.size + 1 + 1 + 1 + 1 + 1 + 1 + 1 + 1 + 1 + 1 + 1 + 1 + 1 + 1 + 1 + 1 + 1 + 1 + 1 + 1 + 1]? = some (.cells #[.slice (some ⟨w.heap.size, 0, none⟩) 2 2, .slice (some ⟨w.heap.size + 1, 0, none⟩) 3 3, .slice (some ⟨w.heap.size + 1 + 1, 0, none⟩) 2 2, .slice (some ⟨w.heap.size + 1 + 1 + 1, 0, none⟩) 3 3, .slice (some ⟨w.heap.size + 1 + 1 + 1 + 1, 0, none⟩) 2 2, .slice (some ⟨w.heap.size + 1 + 1 + 1 + 1 + 1, 0, none⟩) 2 2, .slice (some ⟨w.heap.size + 1 + 1 + 1 + 1 + 1 + 1, 0, none⟩) 2 2, .slice (some ⟨w.heap.size + 1 + 1 + 1 + 1 + 1 + 1 + 1, 0, none⟩) 2 2, .slice (some ⟨w.heap.size + 1 + 1 + 1 + 1 + 1 + 1 + 1 + 1, 0, none⟩) 3 3, .slice (some ⟨w.heap.size + 1 + 1 + 1 + 1 + 1 + 1 + 1 + 1 + 1, 0, none⟩) 3 3, .slice (some ⟨w.heap.size + 1 + 1 + 1 + 1 + 1 + 1 + 1 + 1 + 1 + 1, 0, none⟩) 2 2, .slice (some ⟨w.heap.size + 1 + 1 + 1 + 1 + 1 + 1 + 1 + 1 + 1 + 1 + 1, 0, none⟩) 4 4, .slice (some ⟨w.heap.size + 1 + 1 + 1 + 1 + 1 + 1 + 1 + 1 + 1 + 1 + 1 + 1, 0, none⟩) 2 2, .slice (some ⟨w.heap.size + 1 + 1 + 1 + 1 + 1 + 1 + 1 + 1 + 1 + 1 + 1 + 1 + 1, 0, none⟩) 2 2, .slice (some ⟨w.heap.size + 1 + 1 + 1 + 1 + 1 + 1 + 1 + 1 + 1 + 1 + 1 + 1 + 1 + 1, 0, none⟩) 4 4, .slice (some ⟨w.heap.size + 1 + 1 + 1 + 1 + 1 + 1 + 1 + 1 + 1 + 1 + 1 + 1 + 1 + 1 + 1, 0, none⟩) 3 3, .slice (some ⟨w.heap.size + 1 + 1 + 1 + 1 + 1 + 1 + 1 + 1 + 1 + 1 + 1 + 1 + 1 + 1 + 1 + 1, 0, none⟩) 2 2, .slice (some ⟨w.heap.size + 1 + 1 + 1 + 1 + 1 + 1 + 1 + 1 + 1 + 1 + 1 + 1 + 1 + 1 + 1 + 1 + 1, 0, none⟩) 3 3, .slice (some ⟨w.heap.size + 1 + 1 + 1 + 1 + 1 + 1 + 1 + 1 + 1 + 1 + 1 + 1 + 1 + 1 + 1 + 1 + 1 + 1, 0, none⟩) 3 3, .slice (some ⟨w.heap.size + 1 + 1 + 1 + 1 + 1 + 1 + 1 + 1 + 1 + 1 + 1 + 1 + 1 + 1 + 1 + 1 + 1 + 1 + 1, 0, none⟩) 3 3, .slice (some ⟨w.heap.size + 1 + 1 + 1 + 1 + 1 + 1 + 1 + 1 + 1 + 1 + 1 + 1 + 1 + 1 + 1 + 1 + 1 + 1 + 1 + 1, 0, none⟩) 3 3] 25 (0, 0)) := by rw [hw1]; exact block_new_at _ _ _ (by simp)
  have hB : Below w.heap.size w w1 := by rw [hw1]; exact ((((((((((((((((((((((Below.refl _ _).alloc (by simp <;> omega) _).alloc (by simp <;> omega) _).alloc (by simp <;> omega) _).alloc (by simp <;> omega) _).alloc (by simp <;> omega) _).alloc (by simp <;> omega) _).alloc (by simp <;> omega) _).alloc (by simp <;> omega) _).alloc (by simp <;> omega) _).alloc (by simp <;> omega) _).alloc (by simp <;> omega) _).alloc (by simp <;> omega) _).alloc (by simp <;> omega) _).alloc (by simp <;> omega) _).alloc (by simp <;> omega) _).alloc (by simp <;> omega) _).alloc (by simp <;> omega) _).alloc (by simp <;> omega) _).alloc (by simp <;> omega) _).alloc (by simp <;> omega) _).alloc (by simp <;> omega) _).alloc (by simp <;> omega) _
  have HB := Lib.hid hB
  have H0 := Lib.hid h0
  have H1 := Lib.hid h1
  have H2 := Lib.hid h2
  have H3 := Lib.hid h3
  have H4 := Lib.hid h4
  have H5 := Lib.hid h5
  have H6 := Lib.hid h6
  have H7 := Lib.hid h7
  have H8 := Lib.hid h8
  have H9 := Lib.hid h9
  have H10 := Lib.hid h10
  have H11 := Lib.hid h11
  have H12 := Lib.hid h12
  have H13 := Lib.hid h13
  have H14 := Lib.hid h14
  have H15 := Lib.hid h15
  have H16 := Lib.hid h16
  have H17 := Lib.hid h17
  have H18 := Lib.hid h18
  have H19 := Lib.hid h19
  have H20 := Lib.hid h20
  have HL := Lib.hid hL
  clear hw1 hB hL h0 h1 h2 h3 h4 h5 h6 h7 h8 h9 h10 h11 h12 h13 h14 h15 h16 h17 h18 h19 h20
  match k, hlt with
  | 0, _ =>
    have c : w1.cell? ⟨w.heap.size + 1 + 1 + 1 + 1 + 1 + 1 + 1 + 1 + 1 + 1 + 1 + 1 + 1 + 1 + 1 + 1 + 1 + 1 + 1 + 1 + 1, 0, none⟩ = some (.slice (some ⟨w.heap.size, 0, none⟩) 2 2) := by rw [cell_at HL.out]; rfl
    go_wp2_with fail
    go_ret
    exact ⟨0, _, rfl, by decide, HB.out, elem_lit (bs := [124, 124]) H0.out (by omega) (by decide) (by decide)⟩
  | 1, _ =>
    have c : w1.cell? ⟨w.heap.size + 1 + 1 + 1 + 1 + 1 + 1 + 1 + 1 + 1 + 1 + 1 + 1 + 1 + 1 + 1 + 1 + 1 + 1 + 1 + 1 + 1, 1, none⟩ = some (.slice (some ⟨w.heap.size + 1, 0, none⟩) 3 3) := by rw [cell_at HL.out]; rfl
    go_wp2_with fail
    go_ret
    exact ⟨1, _, rfl, by decide, HB.out, elem_lit (bs := [123, 123, 123]) H1.out (by omega) (by decide) (by decide)⟩
  | 2, _ =>
    have c : w1.cell? ⟨w.heap.size + 1 + 1 + 1 + 1 + 1 + 1 + 1 + 1 + 1 + 1 + 1 + 1 + 1 + 1 + 1 + 1 + 1 + 1 + 1 + 1 + 1, 2, none⟩ = some (.slice (some ⟨w.heap.size + 1 + 1, 0, none⟩) 2 2) := by rw [cell_at HL.out]; rfl
    go_wp2_with fail
    go_ret
    exact ⟨2, _, rfl, by decide, HB.out, elem_lit (bs := [114, 114]) H2.out (by omega) (by decide) (by decide)⟩
  | 3, _ =>
    have c : w1.cell? ⟨w.heap.size + 1 + 1 + 1 + 1 + 1 + 1 + 1 + 1 + 1 + 1 + 1 + 1 + 1 + 1 + 1 + 1 + 1 + 1 + 1 + 1 + 1, 3, none⟩ = some (.slice (some ⟨w.heap.size + 1 + 1 + 1, 0, none⟩) 3 3) := by rw [cell_at HL.out]; rfl
    go_wp2_with fail
    go_ret
    exact ⟨3, _, rfl, by decide, HB.out, elem_lit (bs := [113, 113, 113]) H3.out (by omega) (by decide) (by decide)⟩
  | 4, _ =>
    have c : w1.cell? ⟨w.heap.size + 1 + 1 + 1 + 1 + 1 + 1 + 1 + 1 + 1 + 1 + 1 + 1 + 1 + 1 + 1 + 1 + 1 + 1 + 1 + 1 + 1, 4, none⟩ = some (.slice (some ⟨w.heap.size + 1 + 1 + 1 + 1, 0, none⟩) 2 2) := by rw [cell_at HL.out]; rfl
    go_wp2_with fail
    go_ret
    exact ⟨4, _, rfl, by decide, HB.out, elem_lit (bs := [118, 117]) H4.out (by omega) (by decide) (by decide)⟩
  | 5, _ =>
    have c : w1.cell? ⟨w.heap.size + 1 + 1 + 1 + 1 + 1 + 1 + 1 + 1 + 1 + 1 + 1 + 1 + 1 + 1 + 1 + 1 + 1 + 1 + 1 + 1 + 1, 5, none⟩ = some (.slice (some ⟨w.heap.size + 1 + 1 + 1 + 1 + 1, 0, none⟩) 2 2) := by rw [cell_at HL.out]; rfl
    go_wp2_with fail
    go_ret
    exact ⟨5, _, rfl, by decide, HB.out, elem_lit (bs := [120, 117]) H5.out (by omega) (by decide) (by decide)⟩
  | 6, _ =>
    have c : w1.cell? ⟨w.heap.size + 1 + 1 + 1 + 1 + 1 + 1 + 1 + 1 + 1 + 1 + 1 + 1 + 1 + 1 + 1 + 1 + 1 + 1 + 1 + 1 + 1, 6, none⟩ = some (.slice (some ⟨w.heap.size + 1 + 1 + 1 + 1 + 1 + 1, 0, none⟩) 2 2) := by rw [cell_at HL.out]; rfl
    go_wp2_with fail
    go_ret
    exact ⟨6, _, rfl, by decide, HB.out, elem_lit (bs := [110, 109]) H6.out (by omega) (by decide) (by decide)⟩
  | 7, _ =>
    have c : w1.cell? ⟨w.heap.size + 1 + 1 + 1 + 1 + 1 + 1 + 1 + 1 + 1 + 1 + 1 + 1 + 1 + 1 + 1 + 1 + 1 + 1 + 1 + 1 + 1, 7, none⟩ = some (.slice (some ⟨w.heap.size + 1 + 1 + 1 + 1 + 1 + 1 + 1, 0, none⟩) 2 2) := by rw [cell_at HL.out]; rfl
    go_wp2_with fail
    go_ret
    exact ⟨7, _, rfl, by decide, HB.out, elem_lit (bs := [112, 109]) H7.out (by omega) (by decide) (by decide)⟩
  | 8, _ =>
    have c : w1.cell? ⟨w.heap.size + 1 + 1 + 1 + 1 + 1 + 1 + 1 + 1 + 1 + 1 + 1 + 1 + 1 + 1 + 1 + 1 + 1 + 1 + 1 + 1 + 1, 8, none⟩ = some (.slice (some ⟨w.heap.size + 1 + 1 + 1 + 1 + 1 + 1 + 1 + 1, 0, none⟩) 3 3) := by rw [cell_at HL.out]; rfl
    go_wp2_with fail
    go_ret
    exact ⟨8, _, rfl, by decide, HB.out, elem_lit (bs := [111, 109, 117]) H8.out (by omega) (by decide) (by decide)⟩
  | 9, _ =>
    have c : w1.cell? ⟨w.heap.size + 1 + 1 + 1 + 1 + 1 + 1 + 1 + 1 + 1 + 1 + 1 + 1 + 1 + 1 + 1 + 1 + 1 + 1 + 1 + 1 + 1, 9, none⟩ = some (.slice (some ⟨w.heap.size + 1 + 1 + 1 + 1 + 1 + 1 + 1 + 1 + 1, 0, none⟩) 3 3) := by rw [cell_at HL.out]; rfl
    go_wp2_with fail
    go_ret
    exact ⟨9, _, rfl, by decide, HB.out, elem_lit (bs := [125, 117, 124]) H9.out (by omega) (by decide) (by decide)⟩
  | 10, _ =>
    have c : w1.cell? ⟨w.heap.size + 1 + 1 + 1 + 1 + 1 + 1 + 1 + 1 + 1 + 1 + 1 + 1 + 1 + 1 + 1 + 1 + 1 + 1 + 1 + 1 + 1, 10, none⟩ = some (.slice (some ⟨w.heap.size + 1 + 1 + 1 + 1 + 1 + 1 + 1 + 1 + 1 + 1, 0, none⟩) 2 2) := by rw [cell_at HL.out]; rfl
    go_wp2_with fail
    go_ret
    exact ⟨10, _, rfl, by decide, HB.out, elem_lit (bs := [107, 108]) H10.out (by omega) (by decide) (by decide)⟩
  | 11, _ =>
    have c : w1.cell? ⟨w.heap.size + 1 + 1 + 1 + 1 + 1 + 1 + 1 + 1 + 1 + 1 + 1 + 1 + 1 + 1 + 1 + 1 + 1 + 1 + 1 + 1 + 1, 11, none⟩ = some (.slice (some ⟨w.heap.size + 1 + 1 + 1 + 1 + 1 + 1 + 1 + 1 + 1 + 1 + 1, 0, none⟩) 4 4) := by rw [cell_at HL.out]; rfl
    go_wp2_with fail
    go_ret
    exact ⟨11, _, rfl, by decide, HB.out, elem_lit (bs := [107, 107, 108, 108]) H11.out (by omega) (by decide) (by decide)⟩
  | 12, _ =>
    have c : w1.cell? ⟨w.heap.size + 1 + 1 + 1 + 1 + 1 + 1 + 1 + 1 + 1 + 1 + 1 + 1 + 1 + 1 + 1 + 1 + 1 + 1 + 1 + 1 + 1, 12, none⟩ = some (.slice (some ⟨w.heap.size + 1 + 1 + 1 + 1 + 1 + 1 + 1 + 1 + 1 + 1 + 1 + 1, 0, none⟩) 2 2) := by rw [cell_at HL.out]; rfl
    go_wp2_with fail
    go_ret
    exact ⟨12, _, rfl, by decide, HB.out, elem_lit (bs := [130, 117]) H12.out (by omega) (by decide) (by decide)⟩
  | 13, _ =>
    have c : w1.cell? ⟨w.heap.size + 1 + 1 + 1 + 1 + 1 + 1 + 1 + 1 + 1 + 1 + 1 + 1 + 1 + 1 + 1 + 1 + 1 + 1 + 1 + 1 + 1, 13, none⟩ = some (.slice (some ⟨w.heap.size + 1 + 1 + 1 + 1 + 1 + 1 + 1 + 1 + 1 + 1 + 1 + 1 + 1, 0, none⟩) 2 2) := by rw [cell_at HL.out]; rfl
    go_wp2_with fail
    go_ret
    exact ⟨13, _, rfl, by decide, HB.out, elem_lit (bs := [118, 119]) H13.out (by omega) (by decide) (by decide)⟩
  | 14, _ =>
    have c : w1.cell? ⟨w.heap.size + 1 + 1 + 1 + 1 + 1 + 1 + 1 + 1 + 1 + 1 + 1 + 1 + 1 + 1 + 1 + 1 + 1 + 1 + 1 + 1 + 1, 14, none⟩ = some (.slice (some ⟨w.heap.size + 1 + 1 + 1 + 1 + 1 + 1 + 1 + 1 + 1 + 1 + 1 + 1 + 1 + 1, 0, none⟩) 4 4) := by rw [cell_at HL.out]; rfl
    go_wp2_with fail
    go_ret
    exact ⟨14, _, rfl, by decide, HB.out, elem_lit (bs := [82, 122, 123, 123]) H14.out (by omega) (by decide) (by decide)⟩
  | 15, _ =>
    have c : w1.cell? ⟨w.heap.size + 1 + 1 + 1 + 1 + 1 + 1 + 1 + 1 + 1 + 1 + 1 + 1 + 1 + 1 + 1 + 1 + 1 + 1 + 1 + 1 + 1, 15, none⟩ = some (.slice (some ⟨w.heap.size + 1 + 1 + 1 + 1 + 1 + 1 + 1 + 1 + 1 + 1 + 1 + 1 + 1 + 1 + 1, 0, none⟩) 3 3) := by rw [cell_at HL.out]; rfl
    go_wp2_with fail
    go_ret
    exact ⟨15, _, rfl, by decide, HB.out, elem_lit (bs := [0, 121, 117]) H15.out (by omega) (by decide) (by decide)⟩
  | 16, _ =>
    have c : w1.cell? ⟨w.heap.size + 1 + 1 + 1 + 1 + 1 + 1 + 1 + 1 + 1 + 1 + 1 + 1 + 1 + 1 + 1 + 1 + 1 + 1 + 1 + 1 + 1, 16, none⟩ = some (.slice (some ⟨w.heap.size + 1 + 1 + 1 + 1 + 1 + 1 + 1 + 1 + 1 + 1 + 1 + 1 + 1 + 1 + 1 + 1, 0, none⟩) 2 2) := by rw [cell_at HL.out]; rfl
    go_wp2_with fail
    go_ret
    exact ⟨16, _, rfl, by decide, HB.out, elem_lit (bs := [0, 122]) H16.out (by omega) (by decide) (by decide)⟩
  | 17, _ =>
    have c : w1.cell? ⟨w.heap.size + 1 + 1 + 1 + 1 + 1 + 1 + 1 + 1 + 1 + 1 + 1 + 1 + 1 + 1 + 1 + 1 + 1 + 1 + 1 + 1 + 1, 17, none⟩ = some (.slice (some ⟨w.heap.size + 1 + 1 + 1 + 1 + 1 + 1 + 1 + 1 + 1 + 1 + 1 + 1 + 1 + 1 + 1 + 1 + 1, 0, none⟩) 3 3) := by rw [cell_at HL.out]; rfl
    go_wp2_with fail
    go_ret
    exact ⟨17, _, rfl, by decide, HB.out, elem_lit (bs := [81, 122, 124]) H17.out (by omega) (by decide) (by decide)⟩
  | 18, _ =>
    have c : w1.cell? ⟨w.heap.size + 1 + 1 + 1 + 1 + 1 + 1 + 1 + 1 + 1 + 1 + 1 + 1 + 1 + 1 + 1 + 1 + 1 + 1 + 1 + 1 + 1, 18, none⟩ = some (.slice (some ⟨w.heap.size + 1 + 1 + 1 + 1 + 1 + 1 + 1 + 1 + 1 + 1 + 1 + 1 + 1 + 1 + 1 + 1 + 1 + 1, 0, none⟩) 3 3) := by rw [cell_at HL.out]; rfl
    go_wp2_with fail
    go_ret
    exact ⟨18, _, rfl, by decide, HB.out, elem_lit (bs := [85, 121, 117]) H18.out (by omega) (by decide) (by decide)⟩
  | 19, _ =>
    have c : w1.cell? ⟨w.heap.size + 1 + 1 + 1 + 1 + 1 + 1 + 1 + 1 + 1 + 1 + 1 + 1 + 1 + 1 + 1 + 1 + 1 + 1 + 1 + 1 + 1, 19, none⟩ = some (.slice (some ⟨w.heap.size + 1 + 1 + 1 + 1 + 1 + 1 + 1 + 1 + 1 + 1 + 1 + 1 + 1 + 1 + 1 + 1 + 1 + 1 + 1, 0, none⟩) 3 3) := by rw [cell_at HL.out]; rfl
    go_wp2_with fail
    go_ret
    exact ⟨19, _, rfl, by decide, HB.out, elem_lit (bs := [118, 168, 117]) H19.out (by omega) (by decide) (by decide)⟩
  | 20, _ =>
    have c : w1.cell? ⟨w.heap.size + 1 + 1 + 1 + 1 + 1 + 1 + 1 + 1 + 1 + 1 + 1 + 1 + 1 + 1 + 1 + 1 + 1 + 1 + 1 + 1 + 1, 20, none⟩ = some (.slice (some ⟨w.heap.size + 1 + 1 + 1 + 1 + 1 + 1 + 1 + 1 + 1 + 1 + 1 + 1 + 1 + 1 + 1 + 1 + 1 + 1 + 1 + 1, 0, none⟩) 3 3) := by rw [cell_at HL.out]; rfl
    go_wp2_with fail
    go_ret
    exact ⟨20, _, rfl, by decide, HB.out, elem_lit (bs := [118, 118, 136]) H20.out (by omega) (by decide) (by decide)⟩
  | n + 21, h => exact absurd h (by omega)
end Go.Proofs.YtaohcejbjeaemaaGreatDoor

import Derived.Test.YtaohcejbjeaemaaGreatDoorJShaQShaS
import Derived.Test.YtaohcejbjeaemaaGreatDoorJOprsTurns
namespace Go.Proofs.YtaohcejbjeaemaaGreatDoor
open Go Go.RowKit

/-- The engines whose memory holds the table of sha256's words. -/
def TKT (K : EngK) : Prop := ∀ i, i < 64 → ∃ n, K.mem ⟨3, i, none⟩ (.int .u32 n)

theorem stk_new {M : Nat → Prop} {b o : Nat} {T : TypeId} {c : Array Value} {w w1 : World} {dv : Value} {D : List Value} (H : StkIn M b o T c w dv D) (hb : Below w.heap.size w w1) : StkIn (fun k => M k ∨ NewIn w w1 k) b o T c w1 dv D := by
  have hbl := lt_of_block H.blk
  refine ⟨?_, (hb.block b hbl).trans H.blk, H.cell, H.row.of_block (fun g hg => hb.block g (H.row.lt g hg)), H.nb, ?_, ?_⟩
  · rintro k (hk | hk)
    · exact Nat.lt_of_lt_of_le (H.lt k hk) hb.size
    · exact hk.2
  · rintro k hk (hk' | hk')
    · exact H.nM k hk hk'
    · have := H.row.lt k hk; unfold NewIn at hk'; omega
  · rintro (hk' | hk')
    · exact H.nMb hk'
    · unfold NewIn at hk'; omega

set_option maxHeartbeats 4000000 in
set_option maxRecDepth 100000 in
theorem h_sha256 {K : EngK} {V : EngW} {E A : List (List Int)} {a : List Int} {w : World} (h : EngA K V (E ++ [a]) A w) (hl : E.length ≤ 10000) (ha : a.length ≤ 520) (hT : TKT K) (p : Addr) (dat : Value) :
    Calls Tryz.prog 142 #[.pointer (some p), dat, .pointer (some ⟨K.e, 0, none⟩)] w fun e w' => ∃ bs : List Int, HandPostA K V (E ++ [bs]) A w e w' := by
  obtain ⟨D, hD, hE⟩ := h.row
  obtain ⟨D0, x, rfl, hE0, e1⟩ := hE.last
  have e1' := e1
  obtain ⟨p1, k1, rfl, _⟩ := e1'
  have hlD : D0.length ≤ 1000000 := by rw [hE0.length]; omega
  have HS := Lib.hid (h.stkIn hD)
  have H := Lib.hid h
  have HE0 := Lib.hid hE0
  have HX := Lib.hid e1
  have HT := Lib.hid hT
  have hal2 : Tryz.prog.arrayLen 53 = 32 := by kernel_rfl
  clear h hD hE hE0 e1 hT
  go_enter Tryz.func142, Tryz.ntmps142
  go_wp2_with fail
  refine (pop_any (o := 23) HS.out hlD).mono ?_
  rintro e w1 ⟨rfl, hq⟩
  have hkq := (hq.choose_spec.2.2.2.2).mono (M' := LiveA K V w) (fun _ h => h.s)
  obtain ⟨s, hE1, hT1⟩ := H.out.post0 (E' := E) hq (HE0.out.kept hkq (fun _ h => h))
  have hx1 := HX.out.kept hkq
  have hs1 := hkq.size
  have ht1 : TableAt w1 := fun i hi => by
    obtain ⟨n, hn⟩ := HT.out i hi
    exact ⟨n, (hE1.mem _ _ hn).2⟩
  have HSUM := Lib.hid (sum256_any hx1 (fun k hk => Nat.lt_of_lt_of_le hk.1 hs1) ha ht1)
  have HE1 := Lib.hid hE1
  have HT1 := Lib.hid hT1
  clear hkq hE1 hT1 hx1 ht1 hq
  go_wp2_with fail
  refine HSUM.out.mono ?_
  rintro e w2 ⟨c, rfl, c1, c2, hb2⟩
  have HU := Lib.hid Tryz.underlying53
  have hi : (Tryz.prog.info? 53).map (·.size) = some c.size := by rw [c1]; kernel_rfl
  have HI := Lib.hid hi
  have hz : c.size = (#[Value.int .u8 0, Value.int .u8 0, Value.int .u8 0, Value.int .u8 0, Value.int .u8 0, Value.int .u8 0, Value.int .u8 0, Value.int .u8 0, Value.int .u8 0, Value.int .u8 0, Value.int .u8 0, Value.int .u8 0, Value.int .u8 0, Value.int .u8 0, Value.int .u8 0, Value.int .u8 0, Value.int .u8 0, Value.int .u8 0, Value.int .u8 0, Value.int .u8 0, Value.int .u8 0, Value.int .u8 0, Value.int .u8 0, Value.int .u8 0, Value.int .u8 0, Value.int .u8 0, Value.int .u8 0, Value.int .u8 0, Value.int .u8 0, Value.int .u8 0, Value.int .u8 0, Value.int .u8 0] : Array Value).size := by rw [c1]; rfl
  have HZ := Lib.hid hz
  have HV := Lib.hid (u8_cells c1 c2)
  have HC1 := Lib.hid c1
  have HC2 := Lib.hid c2
  have HB2 := Lib.hid hb2
  clear hi hz c1 c2 hb2 HSUM
  go_wp2_with (with_reducible refine wpList_store_row rfl 53 (.tmp 9) (.tmp 21) rfl w2.heap.size #[Value.int .u8 0, Value.int .u8 0, Value.int .u8 0, Value.int .u8 0, Value.int .u8 0, Value.int .u8 0, Value.int .u8 0, Value.int .u8 0, Value.int .u8 0, Value.int .u8 0, Value.int .u8 0, Value.int .u8 0, Value.int .u8 0, Value.int .u8 0, Value.int .u8 0, Value.int .u8 0, Value.int .u8 0, Value.int .u8 0, Value.int .u8 0, Value.int .u8 0, Value.int .u8 0, Value.int .u8 0, Value.int .u8 0, Value.int .u8 0, Value.int .u8 0, Value.int .u8 0, Value.int .u8 0, Value.int .u8 0, Value.int .u8 0, Value.int .u8 0, Value.int .u8 0, Value.int .u8 0] c 53 rfl rfl (block_new _ _) HZ.out HI.out HV.out ?_)
  intro w3 hg3 hk3
  have hb13 : Below w1.heap.size w1 w3 := HB2.out.trans (((Below.refl _ w2).alloc (Nat.le_refl _) _).trans (Kept.below (hk3.out.mono fun k hk => Nat.ne_of_lt hk)) |>.mono HB2.out.size)
  have hB3 : ByteBlk w3 w2.heap.size 32 53 := ⟨c, hg3.out, HC1.out, HC2.out⟩
  obtain ⟨bs, hbl, hby⟩ := hB3.bytes (Nat.le_refl _)
  have hnew : NewIn w1 w3 w2.heap.size := ⟨HB2.out.size, hB3.lt⟩
  have hx3 : Elem (NewIn w1 w3) w3 (.slice (some ⟨w2.heap.size, 0, none⟩) 32 32) bs := ⟨_, 32, by rw [hbl], by omega, by simp [maxLen], by simp, hby.2, fun _ => ⟨_, _, rfl, hnew, hby.1⟩⟩
  obtain ⟨D1, hD1, hEl1⟩ := HE1.out.row
  have hlD1 : D1.length ≤ 1000000 := by rw [hEl1.length]; omega
  have HI3 := Lib.hid (stk_new (HE1.out.stkIn hD1) (hb13.drew))
  have HB13 := Lib.hid hb13
  have HX3 := Lib.hid hx3
  have HEL1 := Lib.hid hEl1
  clear hg3 hk3 hb13 hB3 hbl hby hnew hx3 hD1 hEl1
  go_wp2_with fail
  refine wp_region_still_tail 4 (by kernel_rfl) (by kernel_rfl) ?_
  simp only [List.take_succ_cons, List.take_zero, List.drop_succ_cons, List.drop_zero]
  change wpStill _ _ (World.drew _) _ _ _
  repeat still_step
  refine wpStill_nil ?_
  change wpList _ _ _ _ _ (World.drew _)
  go_wp2_with fail
  refine (push_any (o := 23) HI3.out _ _ _ hlD1).mono ?_
  rintro e w4 ⟨rfl, hp⟩
  have hk := hp.choose_spec.2.2.2.2
  have hk1 : Kept (LiveA K { V with stk := s } w1) w1 w3.drew := ((kept_of_below HB13.out).drew).mono fun k hk => hk.1
  have HP := Lib.hid (HE1.out.post (E' := E ++ [bs]) HB13.out.drew hp (.snoc ((HEL1.out.kept hk1 (fun k h => (.inl h : LiveA K { V with stk := s } w1 k ∨ NewIn w1 w3.drew k))).kept (hk.mono fun _ h => h.imp_left LiveA.s) (fun _ h => h)) (((HX3.out.kept ((Kept.refl _ w3).drew)).mono (fun k h => (.inr h : LiveA K { V with stk := s } w1 k ∨ NewIn w1 w3.drew k))).kept (hk.mono fun _ h => h.imp_left LiveA.s))))
  clear hp hk hk1
  go_wp2_with fail
  go_ret
  obtain ⟨s2, r1, r2⟩ := HP.out
  exact ⟨bs, HandPostA.of ⟨s2, r1, HT1.out.trans r2⟩⟩

theorem sha_holds : Sha TKT := fun E A a hl ha =>
  opr_hi of_168 (fun h0 hR hr => run_168 h0 hR hr) (by decide) (by decide) (by decide) (by rintro _ _ ⟨⟨b, rfl⟩, rfl⟩; simp; omega) (fun K hT V p w h _ => (h_sha256 h (by omega) ha hT _ _).mono fun e w' ⟨bs, hp⟩ => ⟨_, _, ⟨⟨bs, rfl⟩, rfl⟩, hp⟩)
end Go.Proofs.YtaohcejbjeaemaaGreatDoor
namespace Go.Proofs.YtaohcejbjeaemaaGreatDoor
open Go Go.RowKit

/-- The opcodes of the turns. -/
def opsUsed : List Int := [0, 81, 82, 85, 107, 108, 109, 110, 111, 112, 113, 114, 117, 118, 119, 120, 121, 122, 123, 124, 125, 130, 136, 168]

theorem of_used (v : Int) (h : v ∈ opsUsed) (w : World) : Calls Tryz.prog 62 #[.int .u8 v] w (OpMade v 1 w) := by
  unfold opsUsed at h
  simp only [List.mem_cons, List.not_mem_nil, or_false] at h
  rcases h with rfl | rfl | rfl | rfl | rfl | rfl | rfl | rfl | rfl | rfl | rfl | rfl | rfl | rfl | rfl | rfl | rfl | rfl | rfl | rfl | rfl | rfl | rfl | rfl
  · exact of_0 w
  · exact of_81 w
  · exact of_82 w
  · exact of_85 w
  · exact of_107 w
  · exact of_108 w
  · exact of_109 w
  · exact of_110 w
  · exact of_111 w
  · exact of_112 w
  · exact of_113 w
  · exact of_114 w
  · exact of_117 w
  · exact of_118 w
  · exact of_119 w
  · exact of_120 w
  · exact of_121 w
  · exact of_122 w
  · exact of_123 w
  · exact of_124 w
  · exact of_125 w
  · exact of_130 w
  · exact of_136 w
  · exact of_168 w

theorem turn_used (k : Nat) : ∀ v ∈ turnOf k, v ∈ opsUsed := by
  unfold turnOf
  split <;> decide
theorem turn_len (k : Nat) : (turnOf k).length ≤ 4 := by
  unfold turnOf
  split <;> decide
theorem turn_some {k : Nat} (h : k < 21) : 0 < (turnOf k).length := by
  have : ∀ k, k < 21 → 0 < (turnOf k).length := by decide
  exact this k h
theorem turns_used (ks : List Nat) : ∀ v ∈ ks.flatMap turnOf, v ∈ opsUsed := by
  intro v hv
  obtain ⟨k, _, hk⟩ := List.mem_flatMap.1 hv
  exact turn_used k v hk
theorem turns_len : ∀ ks : List Nat, (ks.flatMap turnOf).length ≤ 4 * ks.length
  | [] => by simp
  | k :: ks => by
    rw [List.flatMap_cons, List.length_append, List.length_cons]
    have := turn_len k
    have := turns_len ks
    omega

/-- A script of the turns' opcodes alone may be cut. -/
theorem script_used {bs : List Int} (h : ∀ v ∈ bs, v ∈ opsUsed) : ∀ (n off : Nat), off + n = bs.length → Script bs off
  | 0, off, e => by
    obtain rfl : off = bs.length := by omega
    exact .done
  | n + 1, off, e => by
    obtain ⟨v, hv⟩ : ∃ v, bs[off]? = some v := ⟨_, List.getElem?_eq_getElem (by omega)⟩
    exact .one v hv (of_used v (h v (List.mem_of_getElem? hv))) (script_used h n (off + 1) (by omega))

/-- The turns' bytes and a true element behind them. -/
theorem script_turns (ks : List Nat) : Script (ks.flatMap turnOf ++ [81]) 0 :=
  script_used (fun v hv => by
    rcases List.mem_append.1 hv with h | h
    · exact turns_used ks v h
    · simp at h; subst h; decide) _ 0 (by rw [Nat.zero_add])

/-- A run of the turns: the stack is left as it was. -/
theorem goes_turns {TK : EngK → Prop} (hsha : Sha TK) {K : EngK} {ks : List Nat} {ver sq : Int} (ho : EngineOf K (ks.flatMap turnOf ++ [81]) ver sq 0) (hT : TK K) (hks : ks.length ≤ 20) {E : List (List Int)} (h6 : 6 ≤ E.length) (h400 : E.length ≤ 400) (hE : ∀ e ∈ E, e.length ≤ 520)
    {V : EngW} {w : World} (h : EngA K V E [] w) (h1 : V.si = 1) (h2 : V.oi = 0) (h3 : V.off = 0) (h4 : V.pos = -1) (h5 : V.nops = 0) : Goes K.e (LetA K V E w) ((ks.flatMap turnOf).length + 1) w := by
  have hl := turns_len ks
  refine goes_all ho hT (by rw [List.length_append, List.length_singleton]; omega) (by rw [ho.flags]; decide) (by omega) (o_1 (L' := E ++ [[1]]) E rfl (by simp; omega)) (ks.flatMap turnOf) E [] V w (turns_any hsha h6 h400 hE ks) h h1 (by rw [h3, h4]; rfl) (by rw [h2, h3]; rfl) (by omega) (by omega) ?_ (by rw [h3, List.length_append, List.length_singleton]; omega) (by rw [h3, Nat.zero_add, List.getElem?_append_right (Nat.le_refl _), Nat.sub_self]; rfl)
  intro i hi
  rw [h3, Nat.zero_add, List.getElem?_append_left hi]
end Go.Proofs.YtaohcejbjeaemaaGreatDoor

import Derived.Test.YtaohcejbjeaemaaGreatDoorJOverLAgainA
import Derived.Test.YtaohcejbjeaemaaGreatDoorJSameAllCopiesN
import Derived.Test.YtaohcejbjeaemaaGreatDoorJSetStkSame
import Derived.Test.YtaohcejbjeaemaaGreatDoorJShaTScript
import Derived.ShapedOpen
import Derived.KernelRfl
namespace Go.Proofs.YtaohcejbjeaemaaGreatDoor
open Go Go.RowKit

/-- A stack as it came in: a row of slices of bytes. -/
def StackAt (w : World) (b o : Nat) (E : List (List Int)) : Prop := ∀ i e, E[i]? = some e → ∃ p m k, w.cell? ⟨b, o + i, none⟩ = some (.slice p m k) ∧ Elem (fun k => k < w.heap.size) w (.slice p m k) e

theorem StackAt.lists {w : World} {b o : Nat} {E : List (List Int)} (h : StackAt w b o E) : ∃ ls : List (Option Addr × Nat × Nat), ls.length = E.length ∧ Lists w b o ls ∧ ((∀ x ∈ ls, x.2.1 ≤ 520) → ∀ e ∈ E, e.length ≤ 520) := by
  obtain ⟨f, hf⟩ : ∃ f : Nat → Option Addr × Nat × Nat, ∀ i e, E[i]? = some e → w.cell? ⟨b, o + i, none⟩ = some (.slice (f i).1 (f i).2.1 (f i).2.2) ∧ (f i).2.1 = e.length := by
    classical
    refine ⟨fun i => if hi : ∃ x : Option Addr × Nat × Nat, w.cell? ⟨b, o + i, none⟩ = some (.slice x.1 x.2.1 x.2.2) then Classical.choose hi else default, fun i e he => ?_⟩
    obtain ⟨p, m, k, h1, h2⟩ := h i e he
    have hi : ∃ x : Option Addr × Nat × Nat, w.cell? ⟨b, o + i, none⟩ = some (.slice x.1 x.2.1 x.2.2) := ⟨(p, m, k), h1⟩
    simp only [dif_pos hi]
    have hc := Classical.choose_spec hi
    refine ⟨hc, ?_⟩
    obtain ⟨_, _, he2, _⟩ := h2
    have e1 := (Value.slice.inj (Option.some.inj (h1.symm.trans hc))).2.1
    have e2 := (Value.slice.inj he2).2.1
    rw [← e1, e2]
  refine ⟨(List.range E.length).map f, by simp, fun i x hx => ?_, fun hx e he => ?_⟩
  · have hi : i < E.length := by have := (List.getElem?_eq_some_iff.1 hx).1; simpa using this
    rw [List.getElem?_map, List.getElem?_range hi] at hx
    obtain rfl := Option.some.inj hx
    exact (hf i E[i] (List.getElem?_eq_getElem hi)).1
  · obtain ⟨i, hi, rfl⟩ := List.getElem_of_mem he
    have := (hf i E[i] (List.getElem?_eq_getElem hi)).2
    rw [← this]
    exact hx _ (List.mem_map.2 ⟨i, List.mem_range.2 hi, rfl⟩)

/-- The script on its way: the bytes of the turns so far, in a row of the call's own. -/
def ScriptAt (w wr : World) (v : Value) (ks : List Nat) : Prop :=
  ∃ bs : List Int, bs = ks.flatMap turnOf ∧ wr.ownsRow w.heap.size 5 1 v bs.length (bs.map (Value.int .u8)) ∧ (bs = [] → v = .slice none 0 0) ∧ (∀ m ∈ bs, 0 ≤ m ∧ m ≤ 255) ∧ Below w.heap.size w wr

theorem ScriptAt.nil (w : World) : ScriptAt w w (.slice none 0 0) [] := ⟨[], rfl, World.ownsRow_nil _ _ _ _, fun _ => rfl, by simp, Below.refl _ _⟩

theorem ScriptAt.elem {w wr : World} {v : Value} {ks : List Nat} (h : ScriptAt w wr v ks) : Elem (fun k => k < wr.heap.size) wr v (ks.flatMap turnOf) := by
  obtain ⟨bs, rfl, h1, _, h3, _⟩ := h
  exact (Elem.of_owns h1 h3).mono fun k hk => hk.2

theorem AllAt.below {w w' : World} {b o : Nat} {E : List (List Int)} (h : AllAt w b o E) (hb : Below w.heap.size w w') : AllAt w' b o E := fun i e he => by
  obtain ⟨p, m, k, h1, q, c, h2, h3, h4, h5, h6, h7⟩ := h i e he
  refine ⟨p, m, k, (World.cell?_of_block (a := ⟨b, o + i, none⟩) (hb.block b (World.block_lt_of_cell? _ _ h1))).trans h1, q, c, h2, h3, h4, h5, h6, fun hp => ?_⟩
  obtain ⟨g, f, h8, _, h9⟩ := h7 hp
  exact ⟨g, f, h8, trivial, fun j hj => (World.cell?_of_block (a := ⟨g, f + j, none⟩) (hb.block g (World.block_lt_of_cell? _ _ (h9 j hj)))).trans (h9 j hj)⟩

theorem StackAt.below {w w' : World} {b o : Nat} {E : List (List Int)} (h : StackAt w b o E) (hb : Below w.heap.size w w') : StackAt w' b o E := fun i e he => by
  obtain ⟨p, m, k, h1, h2⟩ := h i e he
  exact ⟨p, m, k, (World.cell?_of_block (a := ⟨b, o + i, none⟩) (hb.block b (World.block_lt_of_cell? _ _ h1))).trans h1, (h2.kept (kept_of_below hb)).mono fun k hk => Nat.lt_of_lt_of_le hk hb.size⟩

/-- A stack's slices as values. -/
theorem StackAt.vals {w : World} {b o : Nat} {E : List (List Int)} (h : StackAt w b o E) : ∃ Vs : List Value, Vs.length = E.length ∧ (∀ j u, Vs[j]? = some u → w.cell? (Addr.add ⟨b, o, none⟩ j) = some u) ∧ (∀ u ∈ Vs, u.oneCell' = true) ∧ Elems (fun k => k < w.heap.size) w Vs E := by
  have key : ∀ m, m ≤ E.length → ∃ Vs : List Value, Vs.length = m ∧ (∀ j u, Vs[j]? = some u → w.cell? (Addr.add ⟨b, o, none⟩ j) = some u) ∧ (∀ u ∈ Vs, u.oneCell' = true) ∧ Elems (fun k => k < w.heap.size) w Vs (E.take m) := by
    intro m
    induction m with
    | zero => exact fun _ => ⟨[], rfl, by simp, by simp, .nil⟩
    | succ m ih =>
      intro hm
      obtain ⟨Vs, h1, h2, h3, h4⟩ := ih (by omega)
      obtain ⟨p, l, k, c1, x1⟩ := h m E[m] (List.getElem?_eq_getElem (by omega))
      refine ⟨Vs ++ [.slice p l k], by simp [h1], fun j u hj => ?_, fun u hu => ?_, ?_⟩
      · by_cases hlt : j < Vs.length
        · rw [List.getElem?_append_left hlt] at hj
          exact h2 j u hj
        · have hj' : j = m := by have := (List.getElem?_eq_some_iff.1 hj).1; simp at this; omega
          subst hj'
          rw [List.getElem?_append_right (by omega), h1, Nat.sub_self] at hj
          obtain rfl := Option.some.inj hj
          rw [Addr.add_lit]
          exact c1
      · rcases List.mem_append.1 hu with hu | hu
        · exact h3 u hu
        · simp at hu; subst hu; rfl
      · rw [List.take_succ_eq_append_getElem (by omega)]
        exact .snoc h4 x1
  obtain ⟨Vs, h1, h2, h3, h4⟩ := key E.length (Nat.le_refl _)
  rw [List.take_length] at h4
  exact ⟨Vs, h1, h2, h3, h4⟩

/-- An operation whose guard says yes. -/
theorem wpList_unguard {P : Program} {ops : Array Oper} {rest : List Oper} {o : Oper} {a : Act} {w : World} {Q : Exit → Act → World → Prop} (hw : Region.wanted o (yielded ops a.tmps) = true) (h : wpList P ops Q ({ o with guard := none } :: rest) a w) : wpList P ops Q (o :: rest) a w := by
  unfold wpList at h ⊢
  rw [if_pos hw]
  rw [if_pos (by simp [Region.wanted])] at h
  exact h

/-- The row of the last line: the stack's slices and a true one. -/
theorem last_row {w w5 w6 : World} {E : List (List Int)} {Vs : List Value} {v6 v5 : Value} (hE : Elems (fun k => k < w.heap.size) w Vs E) (hw : Below w.heap.size w w5) (hv5 : ∀ k, v5.ownBlock = some k → w.heap.size ≤ k ∧ k < w5.heap.size) (_hn : Vs.length ≤ 300)
    (hr : Row w6 v6 (Vs ++ [.slice (some ⟨w5.heap.size, 0, none⟩) 1 1])) (hg : ((w5.alloc (.cells #[.int .u8 1] 5)).alloc (.cells #[.slice (some ⟨w5.heap.size, 0, none⟩) 1 1] 25)).grownBy w6 v5.ownBlock) :
    ∃ g6 cap, v6 = .slice (some ⟨g6, 0, none⟩) (E.length + 1) cap ∧ E.length + 1 ≤ cap ∧ cap ≤ maxLen ∧ AllAt w6 g6 0 (E ++ [[1]]) ∧ Below w.heap.size w w6 := by
  have hlen := hE.length
  have s0 := hw.size
  have k56 : Kept (fun k => k < w5.heap.size + 1 ∧ v5.ownBlock ≠ some k) w5 w6 → True := fun _ => trivial
  have kA : Kept (fun k => k < w5.heap.size + 1 ∧ v5.ownBlock ≠ some k) (w5.alloc (.cells #[.int .u8 1] 5)) w6 :=
    ((Kept.refl _ (w5.alloc (.cells #[.int .u8 1] 5))).alloc (fun k hk => by simpa using hk.1) _).grown hg (fun k hk => by simp; omega) (fun k hk hk' => hk'.2 hk)
  have k5 : Kept (fun k => k < w5.heap.size ∧ v5.ownBlock ≠ some k) w5 w6 := ((Kept.refl _ w5).alloc (fun k hk => hk.1) _).trans (kA.mono fun k hk => ⟨by omega, hk.2⟩)
  have b6 : Below w.heap.size w w6 := hw.trans (Kept.below (k5.mono fun k hk => ⟨by omega, fun e => by have := (hv5 k e).1; omega⟩))
  rcases hr.form with ⟨_, h2⟩ | ⟨g, cap, cur, h1, h2, h3, h4, h5, h6⟩
  · simp at h2
  have hl : (Vs ++ [Value.slice (some ⟨w5.heap.size, 0, none⟩) 1 1]).length = E.length + 1 := by simp [hlen]
  rw [hl] at h1 h3
  refine ⟨g, cap, h1, h3, h4, fun i e he => ?_, b6⟩
  rw [Nat.zero_add]
  by_cases hi : i < E.length
  · rw [List.getElem?_append_left hi] at he
    obtain ⟨x, hx⟩ : ∃ x, Vs[i]? = some x := ⟨_, List.getElem?_eq_getElem (by rw [hlen]; exact hi)⟩
    obtain ⟨e', a, k, g1, rfl, g3⟩ := elems_at hE i x hx
    rw [he] at g1
    obtain rfl := Option.some.inj g1
    exact ⟨a, e.length, k, Row.cellAt h2 h6 _ _ (by rw [List.getElem?_append_left (List.getElem?_eq_some_iff.1 hx).1]; exact hx), (g3.kept (kept_of_below b6)).mono fun _ _ => trivial⟩
  · have hi' : i = E.length := by have := (List.getElem?_eq_some_iff.1 he).1; simp at this; omega
    subst hi'
    simp at he
    subst he
    refine ⟨some ⟨w5.heap.size, 0, none⟩, 1, 1, Row.cellAt h2 h6 _ _ (by rw [← hlen]; simp), ⟨_, _, rfl, Nat.le_refl _, by simp [maxLen], by simp, by simp, fun _ => ⟨w5.heap.size, 0, rfl, trivial, fun j hj => ?_⟩⟩⟩
    have hj' : j = 0 := by simp at hj; omega
    subst hj'
    rw [kA.cell (p := ⟨w5.heap.size, 0 + 0, none⟩) ⟨Nat.lt_succ_self _, fun e => Nat.lt_irrefl _ (hv5 _ e).2⟩, cell_at (block_new _ _)]
    rfl

theorem owns_below {B : Nat} {e : TypeId} {sz : Nat} {v : Value} {n : Nat} {D : List Value} {w w' : World} (h : w.ownsRow B e sz v n D) (hb : Below w.heap.size w w') : w'.ownsRow B e sz v n D := by
  refine ⟨h.1, ?_⟩
  rcases h.2 with h0 | ⟨g, cap, cur, h1, h2, h3, h4⟩
  · exact .inl h0
  · exact .inr ⟨g, cap, cur, h1, h2, (hb.block g (lt_of_block h3)).trans h3, h4⟩

theorem ScriptAt.next {w wr w2 w3 : World} {v v' : Value} {ks : List Nat} {bs : List Int} {k : Nat} {y : Value} (hbs : bs = ks.flatMap turnOf) (hown : wr.ownsRow w.heap.size 5 1 v bs.length (bs.map (Value.int .u8))) (hr : ∀ m ∈ bs, 0 ≤ m ∧ m ≤ 255) (hb : Below w.heap.size w wr) (hk : k < 21) (hb2 : Below wr.heap.size wr w2)
    (hy : Elem (NewIn wr w2) w2 y (turnOf k)) (ho : w3.ownsRow w.heap.size 5 1 v' (bs ++ turnOf k).length ((bs ++ turnOf k).map (Value.int .u8))) (hg : w2.grownBy w3 v.ownBlock) : ScriptAt w w3 v' (ks ++ [k]) := by
  refine ⟨bs ++ turnOf k, by rw [hbs]; simp, ho, fun e => ?_, fun m hm => ?_, hb.trans ((hb2.mono hb.size).trans ((Below.refl _ _).grown hg (Nat.le_trans hb.size hb2.size) (fun g hg' => (World.ownsRow.lt hown g hg').1)))⟩
  · have := turn_some hk
    have e' := congrArg List.length e
    simp at e'
    rw [e'.2] at this
    exact absurd this (by simp)
  · obtain ⟨_, _, _, _, _, _, h4, _⟩ := hy
    rcases List.mem_append.1 hm with h | h
    · exact hr m h
    · exact h4 m h

set_option maxHeartbeats 4000000 in
set_option maxRecDepth 100000 in
theorem law_loop {TK : EngK → Prop} (hsha : Sha TK) {w : World} (hTK : ∀ K : EngK, (∀ a v, w.cell? a = some v → K.mem a v) → TK K) {b o n k : Nat} {E : List (List Int)} (hst : StackAt w b o E) (hn : n = E.length) (h6 : 6 ≤ n) (hmax : n ≤ maxLen) {q : Option Addr} {m c : Nat} (hmm : m ≤ maxLen) (hq : 0 < m → ∃ g f, q = some ⟨g, f, none⟩ ∧ ∀ i, i < m → ∃ y, w.cell? ⟨g, f + i, none⟩ = some (.int .i64 y)) :
    Calls Tryz.prog 3 #[.slice (some ⟨b, o, none⟩) n k, .slice q m c] w fun e w' => e = .returned (.bool true) ∧ Below w.heap.size w w' := by
  obtain ⟨ls, l1, l2, l3⟩ := hst.lists
  rw [← hn] at l1
  have HF5 := Lib.hid (fits5_any (k := k) l2 (by rw [l1]; exact hmax))
  rw [l1] at HF5
  have HL2 := Lib.hid l2
  have HL3 := Lib.hid l3
  have HL1 := Lib.hid l1
  have HST := Lib.hid hst
  have HN := Lib.hid hn
  have HQ := Lib.hid hq
  have HTK := Lib.hid hTK
  unfold maxLen at hmax hmm
  clear hst hn hq hTK l1 l2 l3
  by_cases hm20 : m ≤ 20
  · go_enter Tryz.func3, Tryz.ntmps3
    go_wp2_with fail
    refine HF5.out.mono ?_
    rintro e w' ⟨r, rfl, hr, rfl⟩
    have HR := Lib.hid hr
    clear hr HF5
    cases r
    · go_wp2_with fail
      go_ret
      exact ⟨rfl, Below.refl _ _⟩
    · have hn31 := HR.out rfl
      have HLI := Lib.hid (light_any (k := k) HL2.out (by rw [HL1.out]; exact hn31))
      rw [HL1.out] at HLI
      go_wp2_with fail
      refine HLI.out.mono ?_
      rintro e w' ⟨r, rfl, hr, rfl⟩
      have HR2 := Lib.hid hr
      clear hr HLI
      cases r
      · go_wp2_with fail
        go_ret
        exact ⟨rfl, Below.refl _ _⟩
      · obtain ⟨h300, h520⟩ := HR2.out rfl
        have HE := Lib.hid (HL3.out h520)
        rw [HL1.out] at h300
        clear h520
        go_wp2_with fail
        go_loopw [5, 6] (fun s i wr => ∃ ks : List Nat, ks.length ≤ m ∧ i = .int .i64 ks.length ∧ Hid (ScriptAt w wr s ks)) (fun _ i _ => m - (intOf i).toNat)
        case atStart => exact ⟨[], Nat.zero_le _, rfl, Lib.hid (ScriptAt.nil w)⟩
        case round =>
          obtain ⟨ks, hks, rfl, hS⟩ := hrel
          obtain ⟨j, hj⟩ : ∃ j, j = ks.length := ⟨_, rfl⟩
          have HJ := Lib.hid hj
          rw [← hj] at hks ⊢
          clear hj
          by_cases hlt : j < m
          · obtain ⟨g, f, rfl, hc⟩ := HQ.out (by omega)
            obtain ⟨y, hy⟩ := hc j hlt
            obtain ⟨bs, hbs, hown, hnil, hrng, hbel⟩ := hS.out
            have c1 : wr.cell? ⟨g, f + j, none⟩ = some (.int .i64 y) := (World.cell?_of_block (a := ⟨g, f + j, none⟩) (hbel.block g (World.block_lt_of_cell? _ _ hy))).trans hy
            have HBS := Lib.hid hbs
            have HOW := Lib.hid hown
            have HRN := Lib.hid hrng
            have HBE := Lib.hid hbel
            clear hc hy hbs hown hnil hrng hbel hS
            obtain ⟨i0, hi0, hz0, hz1, hz2⟩ := info_parts info_u8
            go_wp2_with fail
            refine (again_any y wr).mono ?_
            rintro e w2 ⟨k0, v0, rfl, hk0, hb2, he2⟩
            have HO2 := Lib.hid (owns_below HOW.out hb2)
            have HB2 := Lib.hid hb2
            have HE2 := Lib.hid he2
            have HLN := Lib.hid (show bs.length + (turnOf k0).length ≤ 140737488355328 by
              have h1 := turns_len ks
              have h2 := turn_len k0
              have h3 : bs.length = (ks.flatMap turnOf).length := by rw [HBS.out]
              have h4 := HJ.out
              omega)
            have HW2 := Lib.hid (Nat.le_trans HBE.out.size hb2.size)
            clear hb2 he2
            go_wp2_with (at_builtin; refine wpList_append_bytes rfl _ _ 25 rfl w.heap.size 5 i0 Tryz.underlying25 hi0 hz0 hz1 hz2 _ bs rfl HO2.out _ (turnOf k0) rfl HE2.out HLN.out HW2.out ?_)
            intro v3 w3 ho3 hg3
            have HF := Lib.hid (ScriptAt.next HBS.out HOW.out HRN.out HBE.out hk0 HB2.out HE2.out (by simpa using ho3) hg3)
            clear ho3 hg3
            go_wp2_with fail
            go_roundw
            case rel => exact ⟨ks ++ [k0], by rw [List.length_append, List.length_singleton, ← HJ.out]; omega, by rw [List.length_append, List.length_singleton, ← HJ.out]; go_num, HF⟩
            case measure => simp [intOf]; omega
          · obtain rfl : j = m := by omega
            obtain ⟨bs, hbs, hown, hnil, hrng, hbel⟩ := hS.out
            have hov := overL_any (k' := k) hsha (fun K hK => HTK.out K (fun a v h => hK a v ((World.cell?_of_block (hbel.block a.block (World.block_lt_of_cell? _ _ h))).trans h))) (by rw [← HJ.out]; exact hm20) hbs hnil ((Elem.of_owns hown hrng).mono fun k hk => hk.2) (HST.out.below hbel) HE.out (by rw [← HN.out]; exact h6) (by rw [← HN.out]; exact h300)
            rw [← HN.out] at hov
            have HOV := Lib.hid hov
            have HBE := Lib.hid hbel
            clear hbs hown hnil hrng hbel hov hS
            go_wp2_with fail
            refine HOV.out.mono ?_
            rintro e w4 ⟨g, c4, rfl, hc1, hc2, hA, hb4⟩
            rw [← HN.out]
            have hb04 := HBE.out.trans (hb4.mono HBE.out.size)
            obtain ⟨Vs, v1, v2, v3, v4⟩ := (HST.out.below hb04).vals
            rw [← HN.out] at v1
            have HV1 := Lib.hid v1
            have HV2 := Lib.hid v2
            have HV3 := Lib.hid v3
            have HV4 := Lib.hid v4
            have HB04 := Lib.hid hb04
            have HA4 := Lib.hid hA
            have HC1 := Lib.hid hc1
            clear hb4 hA hb04 v1 v2 v3 v4 HOV hc1 hc2
            obtain ⟨i0, hi0, hz0, hz1, hz2⟩ := info_parts info_sl
            have hrow : Row (w4.alloc (.cells #[] 25)) (.slice (some ⟨w4.heap.size, 0, none⟩) 0 0) [] := Row.mk (D := []) (cur := #[]) (block_new _ _) (Nat.zero_le _) (Nat.zero_le _) rfl rfl
            have HRW := Lib.hid hrow
            have hvc : ∀ j u, Vs[j]? = some u → (w4.alloc (.cells #[] 25)).cell? (Addr.add ⟨b, o, none⟩ j) = some u := fun j u hj => by
              have := HV2.out j u hj
              rw [Addr.add_lit] at this ⊢
              exact (World.cell?_of_block (a := ⟨b, o + j, none⟩) (Below.heap_alloc _ _ _ (World.block_lt_of_cell? _ _ this))).trans this
            have HVC := Lib.hid hvc
            have HL4 := Lib.hid (show ([] : List Value).length + n ≤ 1000000000 by simp; omega)
            clear hrow hvc
            go_wp2_with (at_builtin; refine wpList_unguard (by rfl) (wpList_append_row rfl _ _ 22 rfl i0 Tryz.underlying22 hi0 hz0 hz1 hz2 _ [] rfl HRW.out ⟨b, o, none⟩ n k Vs rfl HV1.out HVC.out HV3.out HL4.out ?_))
            intro v5 w5 hr5 hw5 hg5
            have hv5 : ∀ k, v5.ownBlock = some k → w4.heap.size ≤ k ∧ k < w5.heap.size := fun k hk => by
              refine ⟨?_, hr5.lt k hk⟩
              rcases hw5 with h | ⟨k', h, h'⟩
              · rw [h] at hk; simp [Value.ownBlock] at hk; omega
              · rw [h] at hk; cases hk; first | omega | (simp at h'; omega)
            have hb45 : Below w4.heap.size w4 w5 := ((Below.refl _ _).alloc (Nat.le_refl _) _).grown hg5 (by simp) (fun k hk => by simp [Value.ownBlock] at hk; omega)
            try simp only [List.nil_append] at hr5
            have HR5 := Lib.hid ((hr5.alloc (.cells #[.int .u8 1] 5)).alloc (.cells #[.slice (some ⟨w5.heap.size, 0, none⟩) 1 1] 25))
            have HV5 := Lib.hid hv5
            have HB45 := Lib.hid hb45
            have HL5 := Lib.hid (show Vs.length + 1 ≤ 1000000000 by rw [HV1.out]; omega)
            clear hr5 hw5 hg5 hv5 hb45 HRW HVC HL4
            go_wp2_with (at_builtin; refine wpList_unguard (by rfl) (wpList_append_row rfl _ _ 22 rfl i0 Tryz.underlying22 hi0 hz0 hz1 hz2 _ Vs rfl HR5.out ⟨w5.heap.size + 1, 0, none⟩ 1 1 [.slice (some ⟨w5.heap.size, 0, none⟩) 1 1] rfl rfl ?cnew ?cone HL5.out ?_))
            case cnew =>
              intro i u hu
              match i, hu with
              | 0, hu => simp at hu; subst hu; rw [Addr.add_lit, cell_at (block_new_at _ _ _ (by simp))]; rfl
            case cone => intro u hu; simp at hu; subst hu; rfl
            intro v6 w6 hr6 hw6 hg6
            have hHV := HV4.out
            obtain ⟨g6, cap6, rfl, hc6, hm6, hall, hb46⟩ := last_row (w := w4) HV4.out HB45.out HV5.out (by rw [HV1.out]; exact h300) hr6 hg6
            have hfit := fits_yes (k := c4) (k' := cap6) (HA4.out.below hb46) hall (fun e he => Nat.le_trans (HE.out e he) (by decide)) (by rw [← HN.out]; omega) ⟨hc6, hm6⟩
            rw [← HN.out] at hfit ⊢
            have HFT := Lib.hid hfit
            have HB6 := Lib.hid (HB04.out.trans (hb46.mono HB04.out.size))
            clear hr6 hw6 hg6 hHV hall hb46 hfit hc6 hm6
            go_wp2_with fail
            refine HFT.out.mono ?_
            rintro e w7 ⟨rfl, m7, rfl⟩
            go_wp2_with fail
            go_ret
            exact ⟨rfl, Kept.below ((kept_of_below HB6.out).drewN m7)⟩
  · by_cases hmb : m ≤ 2147483647
    · go_enter Tryz.func3, Tryz.ntmps3
      go_wp2_with fail
      refine HF5.out.mono ?_
      rintro e w' ⟨r, rfl, hr, rfl⟩
      have HR := Lib.hid hr
      clear hr HF5
      cases r
      · go_wp2_with fail
        go_ret
        exact ⟨rfl, Below.refl _ _⟩
      · have hn31 := HR.out rfl
        have HLI := Lib.hid (light_any (k := k) HL2.out (by rw [HL1.out]; exact hn31))
        rw [HL1.out] at HLI
        go_wp2_with fail
        refine HLI.out.mono ?_
        rintro e w' ⟨r, rfl, hr, rfl⟩
        clear hr HLI
        cases r
        · go_wp2_with fail
          go_ret
          exact ⟨rfl, Below.refl _ _⟩
        · go_wp2_with fail
          go_ret
          exact ⟨rfl, Below.refl _ _⟩
    · go_enter Tryz.func3, Tryz.ntmps3
      go_wp2_with fail
      refine HF5.out.mono ?_
      rintro e w' ⟨r, rfl, hr, rfl⟩
      have HR := Lib.hid hr
      clear hr HF5
      cases r
      · go_wp2_with fail
        go_ret
        exact ⟨rfl, Below.refl _ _⟩
      · go_wp2_with fail
        go_ret
        exact ⟨rfl, Below.refl _ _⟩

/-- Too few elements: nothing is run. -/
theorem law_few {w : World} {p : Option Addr} {n k : Nat} {E : List (List Int)} (hst : n = 0 ∨ ∃ b o, p = some ⟨b, o, none⟩ ∧ StackAt w b o E ∧ n = E.length) (h6 : n < 6) {q : Option Addr} {m c : Nat} (hmm : m ≤ maxLen) :
    Calls Tryz.prog 3 #[.slice p n k, .slice q m c] w fun e w' => e = .returned (.bool true) ∧ Below w.heap.size w w' := by
  unfold maxLen at hmm
  have hf : Calls Tryz.prog 4 #[.slice p n k] w fun e w' => (∃ r : Bool, e = .returned (.bool r)) ∧ w = w' := by
    rcases hst with rfl | ⟨b, o, rfl, hs, hn⟩
    · exact fits5_few.mono fun e w' h => ⟨⟨true, h.1⟩, h.2⟩
    · obtain ⟨ls, l1, l2, _⟩ := hs.lists
      rw [← hn] at l1
      have := fits5_any (k := k) l2 (by rw [l1]; unfold maxLen; omega)
      rw [l1] at this
      exact this.mono fun e w' ⟨r, h1, _, h2⟩ => ⟨⟨r, h1⟩, h2⟩
  have HF := Lib.hid hf
  clear hf hst
  by_cases hmb : m ≤ 2147483647
  · go_enter Tryz.func3, Tryz.ntmps3
    go_wp2_with fail
    refine HF.out.mono ?_
    rintro e w' ⟨⟨r, rfl⟩, rfl⟩
    clear HF
    cases r
    · go_wp2_with fail
      go_ret
      exact ⟨rfl, Below.refl _ _⟩
    · go_wp2_with fail
      go_ret
      exact ⟨rfl, Below.refl _ _⟩
  · go_enter Tryz.func3, Tryz.ntmps3
    go_wp2_with fail
    refine HF.out.mono ?_
    rintro e w' ⟨⟨r, rfl⟩, rfl⟩
    clear HF
    cases r
    · go_wp2_with fail
      go_ret
      exact ⟨rfl, Below.refl _ _⟩
    · go_wp2_with fail
      go_ret
      exact ⟨rfl, Below.refl _ _⟩
end Go.Proofs.YtaohcejbjeaemaaGreatDoor
namespace Go.Proofs.YtaohcejbjeaemaaGreatDoor
open Go Go.RowKit

set_option maxRecDepth 100000 in
/-- The package's own table of sha256 holds 64 words, whatever they are, in every world of the program's shape. -/
theorem table_of_shape {w : World} (h : w.ShapedOpen Tryz.prog) : TableAt w := by
  obtain ⟨zero, h0, hz⟩ : ∃ zero : Array Value, ((begin Tryz.prog (fun _ _ => 0) default).world.heap[3]?).bind Obj.row? = some (zero, 342) ∧ zero.size = 64 :=
    ⟨(List.replicate 64 (Value.int .u32 0)).toArray, by kernel_rfl, by simp⟩
  obtain ⟨cs, hh, hs, hr⟩ := h.1 3 zero 342 (by rw [show Tryz.prog.globals.size = 8 by kernel_rfl]; decide) h0
  obtain ⟨ts, hts, _, hall⟩ := hr (by kernel_rfl)
  have hc : Tryz.prog.cellTypes Tryz.prog.depth 342 = some (List.replicate 64 29) := by kernel_rfl
  rw [hc] at hts
  cases hts
  intro i hi
  have hi' : i < cs.size := by omega
  obtain ⟨u, hu, hok⟩ := hall i cs[i] (Array.getElem?_eq_getElem hi')
  have hu' : u = 29 := by
    rw [List.getElem?_replicate] at hu
    split at hu
    · exact (Option.some.inj hu).symm
    · cases hu
  subst hu'
  have hcell : w.cell? ⟨3, i, none⟩ = some cs[i] := by rw [cell_at hh]; exact Array.getElem?_eq_getElem hi'
  rw [hcell]
  unfold Cell.ok at hok
  rw [Tryz.underlying29] at hok
  cases hv : cs[i] <;> rw [hv] at hok <;> simp at hok
  case int k' n => exact ⟨n, by rw [hok.1]⟩

/-- laws.FnAgain, at a stack of six or more elements. -/
theorem law_any {w : World} (ht : TableAt w) {b o n k : Nat} {E : List (List Int)} (hst : StackAt w b o E) (hn : n = E.length) (hmax : n ≤ maxLen) {q : Option Addr} {m c : Nat} (hmm : m ≤ maxLen) (hq : 0 < m → ∃ g f, q = some ⟨g, f, none⟩ ∧ ∀ i, i < m → ∃ y, w.cell? ⟨g, f + i, none⟩ = some (.int .i64 y)) :
    Calls Tryz.prog 3 #[.slice (some ⟨b, o, none⟩) n k, .slice q m c] w fun e w' => e = .returned (.bool true) ∧ Below w.heap.size w w' := by
  by_cases h6 : 6 ≤ n
  · exact law_loop sha_holds (fun K hK i hi => by obtain ⟨y, hy⟩ := ht i hi; exact ⟨y, hK _ _ hy⟩) hst hn h6 hmax hmm hq
  · exact law_few (.inr ⟨b, o, rfl, hst, hn⟩) (by omega) hmm
end Go.Proofs.YtaohcejbjeaemaaGreatDoor

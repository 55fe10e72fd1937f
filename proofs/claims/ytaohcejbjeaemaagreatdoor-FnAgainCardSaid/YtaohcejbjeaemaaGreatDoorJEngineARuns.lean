import Derived.Test.YtaohcejbjeaemaaGreatDoorJTxOf
import Derived.Test.YtaohcejbjeaemaaGreatDoorJNew
import Derived.Test.YtaohcejbjeaemaaGreatDoorJHandDHandE
import Derived.Test.YtaohcejbjeaemaaGreatDoorJExecuteAParse
namespace Go.Proofs.YtaohcejbjeaemaaGreatDoor
open Go Go.RowKit

/-- A spend's cells. -/
def SBox (b : Nat) (p : Option Addr) (n k : Nat) (amt ver : Int) (gi gk go gok : Nat) (lock rules : Int) (w : World) : Prop :=
  w.cell? ⟨b, 0, none⟩ = some (.slice p n k) ∧ w.cell? ⟨b, 1, none⟩ = some (.int .i64 amt) ∧ w.cell? ⟨b, 2, none⟩ = some (.int .i32 ver) ∧ w.cell? ⟨b, 3, none⟩ = some (.slice (some ⟨gi, 0, none⟩) 1 gk) ∧ w.cell? ⟨b, 4, none⟩ = some (.slice (some ⟨go, 0, none⟩) 1 gok) ∧ w.cell? ⟨b, 5, none⟩ = some (.int .u32 lock) ∧ w.cell? ⟨b, 6, none⟩ = some (.int .i64 0) ∧ w.cell? ⟨b, 7, none⟩ = some (.int .u32 rules)
theorem SBox.keep {b : Nat} {p : Option Addr} {n k : Nat} {amt ver : Int} {gi gk go gok : Nat} {lock rules : Int} {w w' : World} (h : SBox b p n k amt ver gi gk go gok lock rules w) (hb : w'.heap[b]? = w.heap[b]?) : SBox b p n k amt ver gi gk go gok lock rules w' := by
  have e1 : ∀ i, w'.cell? ⟨b, i, none⟩ = w.cell? ⟨b, i, none⟩ := fun i => World.cell?_of_block (a := ⟨b, i, none⟩) hb
  unfold SBox at h ⊢
  simp only [e1]
  exact h

/-- The engine's state as it is made. -/
def V0 : EngV := { si := 1, oi := 0, off := 0, pos := -1, op := .pointer none, dat := .slice none 0 0, stk := .slice none 0 0, nops := 0 }

/-- What an engine for a spend is. -/
structure EngineOf (K : EngK) (bs : List Int) (ver sq rules : Int) : Prop where
  flags : K.flags = rules
  ver : K.ver = ver
  len : K.L = bs.length
  cap : K.L ≤ K.cap ∧ K.cap ≤ maxLen
  bytes : ∀ i, i < bs.length → K.mem ⟨K.sb, K.so + i, none⟩ (.int .u8 (bs.getD i 0))
  tx : ∃ tx ti txc, K.txin = .slice (some ⟨tx, 0, none⟩) 1 txc ∧ K.mem ⟨tx, 0, none⟩ (.pointer (some ⟨ti, 0, none⟩)) ∧ K.mem ⟨ti, 35, none⟩ (.int .u32 sq)

set_option maxHeartbeats 4000000 in
set_option maxRecDepth 100000 in
theorem engine_any {M : Nat → Prop} {w : World} {p : Option Addr} {k : Nat} {bs : List Int} (hx : Elem M w (.slice p bs.length k) bs) (hM : ∀ k, M k → k < w.heap.size) (hs : Script bs 0) (hl : 0 < bs.length ∧ bs.length ≤ 10000)
    {gi gk go gok : Nat} {ver lock sq amt rules : Int} (hin : w.heap[gi]? = some (.cells (in0 sq).toArray 57 (0, 0))) (hout : w.heap[go]? = some (.cells #[.int .i64 1, .slice none 0 0] 59 (0, 0))) (hfl : NoFlags rules) :
    Calls Tryz.prog 12 #[.agg #[.slice p bs.length k, .int .i64 amt, .int .i32 ver, .slice (some ⟨gi, 0, none⟩) 1 gk, .slice (some ⟨go, 0, none⟩) 1 gok, .int .u32 lock, .int .i64 0, .int .u32 rules]] w fun e w' =>
      ∃ K, e = .returned (.tuple #[.pointer (some ⟨K.e, 0, none⟩), .nilIface]) ∧ Below w.heap.size w w' ∧ w.heap.size ≤ K.e ∧ Eng K V0 [] w' ∧ (∀ a v, w.cell? a = some v → K.mem a v) ∧ EngineOf K bs ver sq rules := by
  obtain ⟨hl0, hl1⟩ := hl
  have lgi := lt_of_block hin
  have lgo := lt_of_block hout
  have HX := Lib.hid hx
  have HS := Lib.hid hs
  have HI := Lib.hid hin
  have HO := Lib.hid hout
  have HM := Lib.hid hM
  have HFL := Lib.hid hfl
  clear hx hs hin hout hM hfl
  go_enter Tryz.func12, Tryz.ntmps12
  go_wp2_with fail
  obtain ⟨w1, hw1⟩ : ∃ w1, w1 = w.alloc (.cells #[.slice p bs.length k, .int .i64 amt, .int .i32 ver, .slice (some ⟨gi, 0, none⟩) 1 gk, .slice (some ⟨go, 0, none⟩) 1 gok, .int .u32 lock, .int .i64 0, .int .u32 rules] 41) := ⟨_, rfl⟩
  have hb1 : w1.heap[w.heap.size]? = some (.cells #[.slice p bs.length k, .int .i64 amt, .int .i32 ver, .slice (some ⟨gi, 0, none⟩) 1 gk, .slice (some ⟨go, 0, none⟩) 1 gok, .int .u32 lock, .int .i64 0, .int .u32 rules] 41 (0, 0)) := by rw [hw1]; exact block_new _ _
  have hk1 : Below w.heap.size w w1 := by rw [hw1]; exact (Below.refl _ _).alloc (Nat.le_refl _) _
  have hS1 : SBox w.heap.size p bs.length k amt ver gi gk go gok lock rules w1 := by
    unfold SBox
    have e1 : ∀ i, w1.cell? ⟨w.heap.size, i, none⟩ = (#[.slice p bs.length k, .int .i64 amt, .int .i32 ver, .slice (some ⟨gi, 0, none⟩) 1 gk, .slice (some ⟨go, 0, none⟩) 1 gok, .int .u32 lock, .int .i64 0, .int .u32 rules] : Array Value)[i]? := fun i => cell_at hb1 i
    simp only [e1]
    exact ⟨rfl, rfl, rfl, rfl, rfl, rfl, rfl, rfl⟩
  have hk1' : Kept M w w1 := (kept_of_below hk1).mono HM.out
  have hx1 : Elem M w1.drew (.slice p bs.length k) bs := (HX.out.kept hk1').kept (Kept.refl _ _).drew
  have hM1 : ∀ k, M k → k < w1.drew.heap.size := hk1'.lt HM.out
  have hlt1 : w.heap.size < w1.heap.size := lt_of_block hb1
  rw [← hw1]
  have HX1 := Lib.hid hx1
  have HM1 := Lib.hid hM1
  have HK1 := Lib.hid hk1
  have HS1 := Lib.hid hS1
  have HI1 := Lib.hid ((hk1.block gi lgi).trans HI.out)
  have HO1 := Lib.hid ((hk1.block go lgo).trans HO.out)
  have lgi1 := Nat.lt_of_lt_of_le lgi hk1.size
  have lgo1 := Nat.lt_of_lt_of_le lgo hk1.size
  clear hw1 hb1 hk1' hx1 hM1 hk1 hS1
  go_region_held3 (fun w' => w'.cell? ⟨w.heap.size, 0, none⟩ = some (.slice p bs.length k) ∧ w'.cell? ⟨w.heap.size, 1, none⟩ = some (.int .i64 amt) ∧ w'.cell? ⟨w.heap.size, 2, none⟩ = some (.int .i32 ver) ∧ w'.cell? ⟨w.heap.size, 3, none⟩ = some (.slice (some ⟨gi, 0, none⟩) 1 gk) ∧ w'.cell? ⟨w.heap.size, 4, none⟩ = some (.slice (some ⟨go, 0, none⟩) 1 gok) ∧ w'.cell? ⟨w.heap.size, 5, none⟩ = some (.int .u32 lock) ∧ w'.cell? ⟨w.heap.size, 6, none⟩ = some (.int .i64 0) ∧ w'.cell? ⟨w.heap.size, 7, none⟩ = some (.int .u32 rules))
    (first | exact HS1.out | exact HS2.out | exact HS3.out | exact HS4.out | exact HS5.out)
    (first
      | (go_at_call 22; refine (copied_any HX1.out HM1.out (Nat.le_trans hl1 (by decide))).mono ?_; rintro e w2 ⟨v, rfl, hb2, he2⟩; obtain ⟨vp, vc, rfl, he2⟩ := he2; obtain ⟨sb, so, rfl, hq1⟩ := he2.2.2.2.2 hl0; have he2 := Elem.mono (M' := fun k => k < w2.heap.size) (show Elem (NewIn w1.drew w2) w2 (.slice (some ⟨sb, so, none⟩) bs.length vc) bs from ⟨_, vc, rfl, he2⟩) (fun k hk => hk.2); have HE2 := Lib.hid he2; have HB2 := Lib.hid hb2; have HS2 := Lib.hid (HS1.out.keep (hb2.block w.heap.size hlt1)); have HI2 := Lib.hid ((hb2.block gi lgi1).trans HI1.out); have HO2 := Lib.hid ((hb2.block go lgo1).trans HO1.out); have hlt2 := Nat.lt_of_lt_of_le hlt1 hb2.size; clear hb2 he2)
      | (go_at_call 23; refine (txOf_any HI2.out HO2.out).mono ?_; rintro e w3 ⟨m, tx, ti, txc, xo, no, co, sp, sk, rfl, hb3, m0, m1, m2, m3, t0, i33, he3, i35⟩; have HB3 := Lib.hid hb3; have HS3 := Lib.hid (HS2.out.keep (hb3.block w.heap.size hlt2)); have HT3 := Lib.hid (And.intro m0 (And.intro m1 (And.intro m2 (And.intro m3 (And.intro t0 (And.intro i33 (And.intro he3 i35))))))); have hlt3 := Nat.lt_of_lt_of_le hlt2 hb3.size; clear hb3 m0 m1 m2 m3 t0 i33 he3 i35)
      | (go_at_call 24; refine (fetcher_any ((HX1.out.kept ((kept_of_below HB2.out).mono HM1.out)).kept ((kept_of_below HB3.out).mono (fun k hk => Nat.lt_of_lt_of_le (HM1.out k hk) HB2.out.size))) (fun k hk => Nat.lt_of_lt_of_le (Nat.lt_of_lt_of_le (HM1.out k hk) HB2.out.size) HB3.out.size) (Nat.le_trans hl1 (by decide)) _ _ _ _).mono ?_; rintro e w4 ⟨⟨fa, rfl⟩, hb4⟩; have HB4 := Lib.hid hb4; have HS4 := Lib.hid (HS3.out.keep (hb4.block w.heap.size hlt3)); have hlt4 := Nat.lt_of_lt_of_le hlt3 hb4.size; obtain ⟨m0, m1, m2, m3, t0, i33, he3, i35⟩ := HT3.out; have cl : ∀ (a : Addr) (v : Value), w3.cell? a = some v → w4.cell? a = some v := fun a v h => (World.cell?_of_block (hb4.block a.block (World.block_lt_of_cell? _ _ h))).trans h;
          have m0' := cl _ _ m0; have m1' := cl _ _ m1; have m2' := cl _ _ m2; have m3' := cl _ _ m3; have t0' := cl _ _ t0; have i33' := cl _ _ i33; have i35' := cl _ _ i35; have he4 := Elem.mono (M' := fun k => k < w4.heap.size) (he3.kept (kept_of_below hb4)) (fun k hk => Nat.lt_of_lt_of_le hk hb4.size); have hx4 := Elem.mono (M' := fun k => k < w4.heap.size) (HE2.out.kept ((kept_of_below HB3.out).trans ((kept_of_below hb4).mono fun k hk => Nat.lt_of_lt_of_le hk HB3.out.size))) (fun k hk => Nat.lt_of_lt_of_le hk (Nat.le_trans HB3.out.size hb4.size));
          have HN := Lib.hid (new_any rfl hx4 HS.out ⟨hl0, hl1⟩ (fl := rules) (amount := amt) rfl he4 HFL.out m0' m1' m2' rfl m3' t0' i33' 115 fa rfl); have HC5 := Lib.hid i35'; have HX4 := Lib.hid hx4; have HTT := Lib.hid t0'; clear hb4 m0 m1 m2 m3 t0 i33 he3 i35 cl m0' m1' m2' m3' t0' i33' i35' he4 hx4)
      | (go_at_call 21; refine HN.out.mono ?_; rintro e w5 ⟨eb, scs, rfl, hge, hb5, hE5⟩; have HB5 := Lib.hid hb5; have HS5 := Lib.hid (HS4.out.keep (hb5.block w.heap.size hlt4)); have HE5 := Lib.hid hE5; have HGE := Lib.hid hge; clear hb5 hE5 hge))
  go_wp2_with fail
  go_ret2
  have z1 : w.heap.size ≤ w1.heap.size := Nat.le_of_lt hlt1
  refine ⟨_, rfl, HK1.out.trans (((Below.refl _ _).drew).trans ((HB2.out.mono z1).trans ((HB3.out.mono (Nat.le_of_lt hlt2)).trans ((HB4.out.mono (Nat.le_of_lt hlt3)).trans (HB5.out.mono (Nat.le_of_lt hlt4)))))), Nat.le_trans (Nat.le_of_lt hlt4) HGE.out, HE5.out, fun a v h => ?_, rfl, rfl, rfl, ?_, ?_, tx, ti, txc, rfl, ⟨World.block_lt_of_cell? _ _ HTT.out, HTT.out⟩, ⟨World.block_lt_of_cell? _ _ HC5.out, HC5.out⟩⟩
  · have hlt := World.block_lt_of_cell? _ _ h
    have hbel := HK1.out.trans (((Below.refl _ _).drew).trans ((HB2.out.mono z1).trans ((HB3.out.mono (Nat.le_of_lt hlt2)).trans (HB4.out.mono (Nat.le_of_lt hlt3)))))
    exact ⟨Nat.lt_of_lt_of_le hlt hbel.size, (World.cell?_of_block (hbel.block a.block hlt)).trans h⟩
  · obtain ⟨pp, cc, he, h1, h2, _⟩ := HX4.out
    simp only [Value.slice.injEq] at he
    obtain ⟨_, _, rfl⟩ := he
    exact ⟨h1, h2⟩
  · intro i hi
    obtain ⟨pp, cc, he, h1, h2, h3, h4, h5⟩ := HX4.out
    obtain ⟨b', o', hp, hb', hc⟩ := h5 hl0
    simp only [Value.slice.injEq] at he
    obtain ⟨rfl, _, rfl⟩ := he
    simp only [Option.some.injEq, Addr.mk.injEq] at hp
    obtain ⟨rfl, rfl, _⟩ := hp
    exact ⟨hb', hc i hi⟩
end Go.Proofs.YtaohcejbjeaemaaGreatDoor
namespace Go.Proofs.YtaohcejbjeaemaaGreatDoor
open Go Go.RowKit

theorem EngA.tokIn {K : EngK} {V : EngW} {E A : List (List Int)} {w : World} {bs : List Int} {ver sq rules : Int} (h : EngA K V E A w) (ho : EngineOf K bs ver sq rules) (h0 : 0 < bs.length) (hl : bs.length ≤ 10000) (hp : -1 ≤ V.pos ∧ V.pos ≤ 10000) :
    TokIn K.e 15 90 (cellsA K V) w K.sb K.so K.L K.cap V.off V.pos :=
  ⟨h.blk, rfl, rfl, rfl, ⟨_, rfl⟩, ⟨_, rfl⟩, rfl, (h.mem _ _ (ho.bytes 0 h0)).1.2.1, by rw [ho.len]; omega, ⟨hp.1, by omega⟩, ho.cap⟩

theorem EngA.byte {K : EngK} {V : EngW} {E A : List (List Int)} {w : World} {bs : List Int} {ver sq rules : Int} (h : EngA K V E A w) (ho : EngineOf K bs ver sq rules) {i : Nat} {v : Int} (hv : bs[i]? = some v) : w.cell? ⟨K.sb, K.so + i, none⟩ = some (.int .u8 v) := by
  have hlt := (List.getElem?_eq_some_iff.1 hv).1
  have := (h.mem _ _ (ho.bytes i hlt)).2
  rw [this]
  simp [List.getD, hv]

theorem nexts_oneA {K : EngK} {V : EngW} {E A : List (List Int)} {w : World} {bs : List Int} {ver sq rules : Int} (h : EngA K V E A w) (ho : EngineOf K bs ver sq rules) (hl : bs.length ≤ 10000) (hp : -1 ≤ V.pos ∧ V.pos ≤ 10000) {v : Int} (hv : bs[V.off]? = some v)
    (hop : ∀ w, Calls Tryz.prog 62 #[.int .u8 v] w (OpMade v 1 w)) : Nexts K V v 1 (V.off + 1) (V.pos + 1) (.slice none 0 0) w := fun d => by
  have hlt := (List.getElem?_eq_some_iff.1 hv).1
  exact next_one ((h.drewN d).1.tokIn ho (by omega) hl hp) (by rw [ho.len]; exact hlt) ((h.drewN d).1.byte ho hv) hop

/-- How an opcode's function is met. -/
def RunAs (v : Int) (f : FuncId) : Prop := ∀ {w : World} {b : Nat} {d : Value} {e : Addr} {R : Ending → World → Prop}, w.cell? ⟨b, 0, none⟩ = some (.int .u8 v) → Hid (Calls Tryz.prog f #[.pointer (some ⟨b, 0, none⟩), d, .pointer (some e)] w R) → (∀ e w', R e w' → ∃ v, e = .returned v) →
  Calls Tryz.prog 70 #[.pointer (some ⟨b, 0, none⟩), d, .pointer (some e)] w R

/-- What an opcode's function does, whatever the engine's state. -/
def Hands (K : EngK) (v : Int) (f : FuncId) (E A : List (List Int)) (Q : List (List Int) → List (List Int) → Prop) : Prop :=
  ∀ (V : EngW) (p : Nat) (w : World), EngA K V E A w → w.cell? ⟨p, 0, none⟩ = some (.int .u8 v) →
    Calls Tryz.prog f #[.pointer (some ⟨p, 0, none⟩), .slice none 0 0, .pointer (some ⟨K.e, 0, none⟩)] w fun e w' => ∃ E' A', Q E' A' ∧ HandPostA K V E' A' w e w'

theorem does_loA {K : EngK} {V : EngW} {E A : List (List Int)} {Q : List (List Int) → List (List Int) → Prop} {w : World} {v : Int} {f : FuncId} (hrun : RunAs v f) (h0 : 0 ≤ v) (h96 : v ≤ 96) {off' : Nat} {pos' : Int} (hh : Hands K v f E A Q) :
    Does K V E A Q V.nops v off' pos' none 0 0 w := by
  intro p w1 hE hT hc hL
  refine exec_lo hE hc h0 h96 (by decide) (R := fun e w2 => e = .returned .nilIface ∧ ∃ s t E' A', Q E' A' ∧ EngA K { (V.tok p off' pos' (.slice none 0 0)) with stk := s, nops := V.nops, alt := t } E' A' w2 ∧ ToA K (V.tok p off' pos' (.slice none 0 0)) w1 { (V.tok p off' pos' (.slice none 0 0)) with stk := s, nops := V.nops, alt := t } w2) ?_ (fun e w' hp => ⟨_, hp.1⟩)
  refine hrun hc (Lib.hid ((hh _ p w1 hE hc).mono ?_)) (fun e w' hp => ⟨_, hp.1⟩)
  rintro e w2 ⟨E', A', hq, rfl, s, t, h1, h2⟩
  exact ⟨rfl, s, t, E', A', hq, h1, h2⟩

theorem ops_putA {K : EngK} {V : EngW} {E A : List (List Int)} {w : World} (h : EngA K V E A w) (n : Int) : EngA K { V with nops := n } E A (w.setCell ⟨K.e, 28, none⟩ (.int .i64 n)) ∧ ToA K V w { V with nops := n } (w.setCell ⟨K.e, 28, none⟩ (.int .i64 n)) :=
  h.put rfl rfl (block_setCell h.blk 28 _) (Kept.setCell (Kept.refl _ _) (fun h => h.2 rfl) _)

theorem does_hiA {K : EngK} {V : EngW} {E A : List (List Int)} {Q : List (List Int) → List (List Int) → Prop} {w : World} {v : Int} {f : FuncId} (hrun : RunAs v f) (h0 : 96 < v) (hbad : v ∉ badOps) (hill : v ≠ 101 ∧ v ≠ 102 ∧ v ≠ 171) (hops : 0 ≤ V.nops ∧ V.nops ≤ 200) {off' : Nat} {pos' : Int} (hh : Hands K v f E A Q) :
    Does K V E A Q (V.nops + 1) v off' pos' none 0 0 w := by
  intro p w1 hE hT hc hL
  obtain ⟨hE2, hT2⟩ := ops_putA hE (V.nops + 1)
  have hc2 : (w1.setCell ⟨K.e, 28, none⟩ (.int .i64 (V.nops + 1))).cell? ⟨p, 0, none⟩ = some (.int .u8 v) := by
    rw [World.cell?_setCell_other _ _ _ _ (by intro e; exact hL.2.1 (by simpa using (congrArg Addr.block e).symm))]; exact hc
  refine exec_hi hE hc h0 hbad hill hops (R := fun e w2 => e = .returned .nilIface ∧ ∃ s t E' A', Q E' A' ∧ EngA K { (V.tok p off' pos' (.slice none 0 0)) with stk := s, nops := V.nops + 1, alt := t } E' A' w2 ∧ ToA K (V.tok p off' pos' (.slice none 0 0)) w1 { (V.tok p off' pos' (.slice none 0 0)) with stk := s, nops := V.nops + 1, alt := t } w2) ?_ (fun e w' hp => ⟨_, hp.1⟩)
  refine hrun hc2 (Lib.hid ((hh _ p _ hE2 hc2).mono ?_)) (fun e w' hp => ⟨_, hp.1⟩)
  rintro e w2 ⟨E', A', hq, rfl, s, t, hE3, hT3⟩
  exact ⟨rfl, s, t, E', A', hq, hE3, hT2.trans hT3⟩

/-- One opcode of a script, in the engines of a kind. -/
structure Opr (TK : EngK → Prop) (v : Int) (E A : List (List Int)) (Q : List (List Int) → List (List Int) → Prop) : Prop where
  of : ∀ w, Calls Tryz.prog 62 #[.int .u8 v] w (OpMade v 1 w)
  does : ∀ K V w off' pos', TK K → 0 ≤ V.nops → V.nops ≤ 200 → ∃ n', V.nops ≤ n' ∧ n' ≤ V.nops + 1 ∧ Does K V E A Q n' v off' pos' none 0 0 w
  size : ∀ E' A', Q E' A' → E'.length + A'.length ≤ 1000

/-- Opcodes in a row, from stacks to stacks. -/
inductive Runs (TK : EngK → Prop) : List Int → List (List Int) → List (List Int) → List (List Int) → List (List Int) → Prop where
  | nil (E A) : Runs TK [] E A E A
  | cons {v vs E A F B Q} : Opr TK v E A Q → (∀ E1 A1, Q E1 A1 → Runs TK vs E1 A1 F B) → Runs TK (v :: vs) E A F B

theorem Runs.append {TK : EngK → Prop} {vs us : List Int} {E A F B G C : List (List Int)} (h : Runs TK vs E A F B) (h' : Runs TK us F B G C) : Runs TK (vs ++ us) E A G C := by
  induction h with
  | nil => exact h'
  | cons h1 _ ih => exact .cons h1 fun E1 A1 hq => ih E1 A1 hq h'

/-- One opcode and what it makes of the stacks, told outright. -/
theorem Runs.one {TK : EngK → Prop} {v : Int} {vs : List Int} {E A E' A' F B : List (List Int)} (h : Opr TK v E A (fun x y => x = E' ∧ y = A')) (h' : Runs TK vs E' A' F B) : Runs TK (v :: vs) E A F B :=
  .cons h fun _ _ hq => by obtain ⟨rfl, rfl⟩ := hq; exact h'

theorem Goes.mono {b : Nat} {R R' : Ending → World → Prop} (hr : ∀ e w, R e w → R' e w) : ∀ (n : Nat) (w : World), Goes b R n w → Goes b R' n w
  | 0, _, h => h
  | n + 1, w, h => by
    refine Calls.mono h ?_
    rintro e w' (⟨h1, h2, h3⟩ | ⟨h1, h2, h3⟩ | ⟨t, x, h1, h2⟩)
    · exact .inl ⟨h1, h2, Goes.mono hr n w' h3⟩
    · exact .inr (.inl ⟨h1, h2, h3.mono fun e w => hr e w⟩)
    · exact .inr (.inr ⟨t, x, h1, hr _ _ h2⟩)

/-- What a run that is let comes to. -/
def LetA (K : EngK) (V : EngW) (F : List (List Int)) (w : World) (e : Ending) (w' : World) : Prop := e = .returned .nilIface ∧ ∃ V', EngA K V' F [] w' ∧ ToA K V w V' w'

theorem goes_all {TK : EngK → Prop} {K : EngK} {bs : List Int} {ver sq rules : Int} (ho : EngineOf K bs ver sq rules) (hT : TK K) (hlen : bs.length ≤ 200) (hfl : (bits .and .u32 K.flags 32 == 32) = false) {F : List (List Int)} (hF : F.length ≤ 900) (hlast : Opr TK 81 F [] (fun x y => x = F ++ [[1]] ∧ y = [])) :
    ∀ (vs : List Int) (E A : List (List Int)) (V : EngW) (w : World), Runs TK vs E A F [] → EngA K V E A w → V.si = 1 → V.pos = (V.off : Int) - 1 → V.oi = V.off → 0 ≤ V.nops → V.nops ≤ V.off → (∀ i, i < vs.length → bs[V.off + i]? = vs[i]?) → bs.length = V.off + vs.length + 1 → bs[V.off + vs.length]? = some 81 →
      Goes K.e (LetA K V F w) (vs.length + 1) w := by
  have hKL := ho.len
  intro vs
  induction vs with
  | nil =>
    intro E A V w hR hE hsi hpos hoi hn0 hn1 _ hbl hb
    cases hR
    simp only [List.length_nil, Nat.add_zero] at hb hbl
    obtain ⟨n', _, _, hD⟩ := hlast.does K V w (V.off + 1) (V.pos + 1) hT hn0 (by omega)
    have hN := nexts_oneA hE ho (by omega) (by omega) hb hlast.of
    refine (step_any hE (by omega) hsi (by omega) (by omega) (fun E' A' hq => ⟨hlast.size E' A' hq, fun _ => hq.2⟩) hN hD).mono ?_
    rintro e w' (⟨h1, _⟩ | ⟨_, rfl, p, s, t, E', A', ⟨rfl, rfl⟩, h1, h2⟩)
    · omega
    · refine .inr (.inl ⟨rfl, h1.cell 33, ?_⟩)
      refine (checkErr_one (E := F) h1 (by omega) rfl hfl).mono ?_
      rintro e w2 ⟨rfl, s2, h3, h4⟩
      exact ⟨rfl, _, h3, h2.trans h4⟩
  | cons v vs ih =>
    intro E A V w hR hE hsi hpos hoi hn0 hn1 hv hbl hb
    cases hR with
    | cons h1 h2 =>
      have hv0 : bs[V.off]? = some v := by simpa using hv 0 (by simp)
      simp only [List.length_cons] at hbl hb
      obtain ⟨n', hn2, hn3, hD⟩ := h1.does K V w (V.off + 1) (V.pos + 1) hT hn0 (by omega)
      have hN := nexts_oneA hE ho (by omega) (by omega) hv0 h1.of
      refine (step_any hE (by omega) hsi (by omega) (by omega) (fun E' A' hq => ⟨h1.size E' A' hq, fun e => by omega⟩) hN hD).mono ?_
      rintro e w' (⟨_, rfl, p, s, t, E', A', hq, h3, h4⟩ | ⟨h3, _⟩)
      · refine .inl ⟨rfl, h3.cell 33, ?_⟩
        have := ih E' A' _ w' (h2 E' A' hq) h3 hsi (by show V.pos + 1 = ((V.off + 1 : Nat) : Int) - 1; omega) (by show V.oi + 1 = ((V.off + 1 : Nat) : Int); omega) (by show 0 ≤ n'; omega) (by show n' ≤ ((V.off + 1 : Nat) : Int); omega)
          (fun i hi => by show bs[V.off + 1 + i]? = vs[i]?; have := hv (i + 1) (by simp; omega); rw [show V.off + (i + 1) = V.off + 1 + i by omega] at this; simpa using this) (by show bs.length = V.off + 1 + vs.length + 1; omega) (by show bs[V.off + 1 + vs.length]? = some 81; rw [show V.off + 1 + vs.length = V.off + (vs.length + 1) by omega]; exact hb)
        exact Goes.mono (fun e w2 hr => ⟨hr.1, hr.2.choose, hr.2.choose_spec.1, h4.trans hr.2.choose_spec.2⟩) _ _ this
      · omega
end Go.Proofs.YtaohcejbjeaemaaGreatDoor

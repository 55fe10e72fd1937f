import Derived.Test.YtbnjggklinickaaGreatDoorRTxOf
import Derived.Test.YtbnjggklinickaaGreatDoorRCsv
import Derived.Test.YtbnjggklinickaaGreatDoorRExecute
namespace Go.Proofs.YtbnjggklinickaaGreatDoorR
open Go Go.RowKit

/-- A spend's cells. -/
def SBox (b : Nat) (p : Option Addr) (n k : Nat) (amt ver : Int) (gi gk go gok : Nat) (lock rules : Int) (w : World) : Prop :=
  w.cell? ⟨b, 0, none⟩ = some (.slice p n k) ∧ w.cell? ⟨b, 1, none⟩ = some (.int .i64 amt) ∧ w.cell? ⟨b, 2, none⟩ = some (.int .i32 ver) ∧ w.cell? ⟨b, 3, none⟩ = some (.slice (some ⟨gi, 0, none⟩) 1 gk) ∧ w.cell? ⟨b, 4, none⟩ = some (.slice (some ⟨go, 0, none⟩) 1 gok) ∧ w.cell? ⟨b, 5, none⟩ = some (.int .u32 lock) ∧ w.cell? ⟨b, 6, none⟩ = some (.int .i64 0) ∧ w.cell? ⟨b, 7, none⟩ = some (.int .u32 rules)
theorem SBox.keep {b : Nat} {p : Option Addr} {n k : Nat} {amt ver : Int} {gi gk go gok : Nat} {lock rules : Int} {w w' : World} (h : SBox b p n k amt ver gi gk go gok lock rules w) (hb : w'.heap[b]? = w.heap[b]?) : SBox b p n k amt ver gi gk go gok lock rules w' := by
  have e1 : ∀ i, w'.cell? ⟨b, i, none⟩ = w.cell? ⟨b, i, none⟩ := fun i => World.cell?_of_block (a := ⟨b, i, none⟩) hb
  unfold SBox at h ⊢
  simp only [e1]
  exact h

/-- The engine's state as it is made. -/
def V0 : EngV := { si := 1, oi := 0, off := 0, pos := -1, op := .pointer none, dat := .slice none 0 0, stk := .slice none 0 0, nops := 0 }

/-- What an engine for a spend is. -/
structure EngineOf (K : EngK) (bs : List Int) (ver sq rules : Int) : Prop where
  flags : K.flags = rules
  ver : K.ver = ver
  len : K.L = bs.length
  cap : K.L ≤ K.cap ∧ K.cap ≤ maxLen
  bytes : ∀ i, i < bs.length → K.mem ⟨K.sb, K.so + i, none⟩ (.int .u8 (bs.getD i 0))
  tx : ∃ tx ti txc, K.txin = .slice (some ⟨tx, 0, none⟩) 1 txc ∧ K.mem ⟨tx, 0, none⟩ (.pointer (some ⟨ti, 0, none⟩)) ∧ K.mem ⟨ti, 35, none⟩ (.int .u32 sq)

set_option maxHeartbeats 4000000 in
set_option maxRecDepth 100000 in
theorem engine_any {M : Nat → Prop} {w : World} {p : Option Addr} {k : Nat} {bs : List Int} (hx : Elem M w (.slice p bs.length k) bs) (hM : ∀ k, M k → k < w.heap.size) (hs : Script bs 0) (hl : 0 < bs.length ∧ bs.length ≤ 10000)
    {gi gk go gok : Nat} {ver lock sq amt rules : Int} (hin : w.heap[gi]? = some (.cells (in0 sq).toArray 40 (0, 0))) (hout : w.heap[go]? = some (.cells #[.int .i64 1, .slice none 0 0] 48 (0, 0))) (hfl : NoFlags rules) :
    Calls Tryz.prog 9 #[.agg #[.slice p bs.length k, .int .i64 amt, .int .i32 ver, .slice (some ⟨gi, 0, none⟩) 1 gk, .slice (some ⟨go, 0, none⟩) 1 gok, .int .u32 lock, .int .i64 0, .int .u32 rules]] w fun e w' =>
      ∃ K, e = .returned (.tuple #[.pointer (some ⟨K.e, 0, none⟩), .nilIface]) ∧ Below w.heap.size w w' ∧ w.heap.size ≤ K.e ∧ Eng K V0 [] w' ∧ EngineOf K bs ver sq rules := by
  obtain ⟨hl0, hl1⟩ := hl
  have lgi := lt_of_block hin
  have lgo := lt_of_block hout
  have HX := Lib.hid hx
  have HS := Lib.hid hs
  have HI := Lib.hid hin
  have HO := Lib.hid hout
  have HM := Lib.hid hM
  have HFL := Lib.hid hfl
  clear hx hs hin hout hM hfl
  go_enter Tryz.func9, Tryz.ntmps9
  go_wp2_with fail
  obtain ⟨w1, hw1⟩ : ∃ w1, w1 = w.alloc (.cells #[.slice p bs.length k, .int .i64 amt, .int .i32 ver, .slice (some ⟨gi, 0, none⟩) 1 gk, .slice (some ⟨go, 0, none⟩) 1 gok, .int .u32 lock, .int .i64 0, .int .u32 rules] 33) := ⟨_, rfl⟩
  have hb1 : w1.heap[w.heap.size]? = some (.cells #[.slice p bs.length k, .int .i64 amt, .int .i32 ver, .slice (some ⟨gi, 0, none⟩) 1 gk, .slice (some ⟨go, 0, none⟩) 1 gok, .int .u32 lock, .int .i64 0, .int .u32 rules] 33 (0, 0)) := by rw [hw1]; exact block_new _ _
  have hk1 : Below w.heap.size w w1 := by rw [hw1]; exact (Below.refl _ _).alloc (Nat.le_refl _) _
  have hS1 : SBox w.heap.size p bs.length k amt ver gi gk go gok lock rules w1 := by
    unfold SBox
    have e1 : ∀ i, w1.cell? ⟨w.heap.size, i, none⟩ = (#[.slice p bs.length k, .int .i64 amt, .int .i32 ver, .slice (some ⟨gi, 0, none⟩) 1 gk, .slice (some ⟨go, 0, none⟩) 1 gok, .int .u32 lock, .int .i64 0, .int .u32 rules] : Array Value)[i]? := fun i => cell_at hb1 i
    simp only [e1]
    exact ⟨rfl, rfl, rfl, rfl, rfl, rfl, rfl, rfl⟩
  have hk1' : Kept M w w1 := (kept_of_below hk1).mono HM.out
  have hx1 : Elem M w1.drew (.slice p bs.length k) bs := (HX.out.kept hk1').kept (Kept.refl _ _).drew
  have hM1 : ∀ k, M k → k < w1.drew.heap.size := hk1'.lt HM.out
  have hlt1 : w.heap.size < w1.heap.size := lt_of_block hb1
  rw [← hw1]
  have HX1 := Lib.hid hx1
  have HM1 := Lib.hid hM1
  have HK1 := Lib.hid hk1
  have HS1 := Lib.hid hS1
  have HI1 := Lib.hid ((hk1.block gi lgi).trans HI.out)
  have HO1 := Lib.hid ((hk1.block go lgo).trans HO.out)
  have lgi1 := Nat.lt_of_lt_of_le lgi hk1.size
  have lgo1 := Nat.lt_of_lt_of_le lgo hk1.size
  clear hw1 hb1 hk1' hx1 hM1 hk1 hS1
  go_region_held3 (fun w' => w'.cell? ⟨w.heap.size, 0, none⟩ = some (.slice p bs.length k) ∧ w'.cell? ⟨w.heap.size, 1, none⟩ = some (.int .i64 amt) ∧ w'.cell? ⟨w.heap.size, 2, none⟩ = some (.int .i32 ver) ∧ w'.cell? ⟨w.heap.size, 3, none⟩ = some (.slice (some ⟨gi, 0, none⟩) 1 gk) ∧ w'.cell? ⟨w.heap.size, 4, none⟩ = some (.slice (some ⟨go, 0, none⟩) 1 gok) ∧ w'.cell? ⟨w.heap.size, 5, none⟩ = some (.int .u32 lock) ∧ w'.cell? ⟨w.heap.size, 6, none⟩ = some (.int .i64 0) ∧ w'.cell? ⟨w.heap.size, 7, none⟩ = some (.int .u32 rules))
    (first | exact HS1.out | exact HS2.out | exact HS3.out | exact HS4.out | exact HS5.out)
    (first
      | (go_at_call 15; refine (copied_any HX1.out HM1.out (Nat.le_trans hl1 (by decide))).mono ?_; rintro e w2 ⟨v, rfl, hb2, he2⟩; obtain ⟨vp, vc, rfl, he2⟩ := he2; obtain ⟨sb, so, rfl, hq1⟩ := he2.2.2.2.2 hl0; have he2 := Elem.mono (M' := fun k => k < w2.heap.size) (show Elem (NewIn w1.drew w2) w2 (.slice (some ⟨sb, so, none⟩) bs.length vc) bs from ⟨_, vc, rfl, he2⟩) (fun k hk => hk.2); have HE2 := Lib.hid he2; have HB2 := Lib.hid hb2; have HS2 := Lib.hid (HS1.out.keep (hb2.block w.heap.size hlt1)); have HI2 := Lib.hid ((hb2.block gi lgi1).trans HI1.out); have HO2 := Lib.hid ((hb2.block go lgo1).trans HO1.out); have hlt2 := Nat.lt_of_lt_of_le hlt1 hb2.size; clear hb2 he2)
      | (go_at_call 16; refine (txOf_any HI2.out HO2.out).mono ?_; rintro e w3 ⟨m, tx, ti, txc, xo, no, co, sp, sk, rfl, hb3, m0, m1, m2, m3, t0, i33, he3, i35⟩; have HB3 := Lib.hid hb3; have HS3 := Lib.hid (HS2.out.keep (hb3.block w.heap.size hlt2)); have HT3 := Lib.hid (And.intro m0 (And.intro m1 (And.intro m2 (And.intro m3 (And.intro t0 (And.intro i33 (And.intro he3 i35))))))); have hlt3 := Nat.lt_of_lt_of_le hlt2 hb3.size; clear hb3 m0 m1 m2 m3 t0 i33 he3 i35)
      | (go_at_call 17; refine (fetcher_any ((HX1.out.kept ((kept_of_below HB2.out).mono HM1.out)).kept ((kept_of_below HB3.out).mono (fun k hk => Nat.lt_of_lt_of_le (HM1.out k hk) HB2.out.size))) (fun k hk => Nat.lt_of_lt_of_le (Nat.lt_of_lt_of_le (HM1.out k hk) HB2.out.size) HB3.out.size) (Nat.le_trans hl1 (by decide)) _ _ _ _).mono ?_; rintro e w4 ⟨⟨fa, rfl⟩, hb4⟩; have HB4 := Lib.hid hb4; have HS4 := Lib.hid (HS3.out.keep (hb4.block w.heap.size hlt3)); have hlt4 := Nat.lt_of_lt_of_le hlt3 hb4.size; obtain ⟨m0, m1, m2, m3, t0, i33, he3, i35⟩ := HT3.out; have cl : ∀ (a : Addr) (v : Value), w3.cell? a = some v → w4.cell? a = some v := fun a v h => (World.cell?_of_block (hb4.block a.block (World.block_lt_of_cell? _ _ h))).trans h;
          have m0' := cl _ _ m0; have m1' := cl _ _ m1; have m2' := cl _ _ m2; have m3' := cl _ _ m3; have t0' := cl _ _ t0; have i33' := cl _ _ i33; have i35' := cl _ _ i35; have he4 := Elem.mono (M' := fun k => k < w4.heap.size) (he3.kept (kept_of_below hb4)) (fun k hk => Nat.lt_of_lt_of_le hk hb4.size); have hx4 := Elem.mono (M' := fun k => k < w4.heap.size) (HE2.out.kept ((kept_of_below HB3.out).trans ((kept_of_below hb4).mono fun k hk => Nat.lt_of_lt_of_le hk HB3.out.size))) (fun k hk => Nat.lt_of_lt_of_le hk (Nat.le_trans HB3.out.size hb4.size));
          have HN := Lib.hid (new_any rfl hx4 HS.out ⟨hl0, hl1⟩ (fl := rules) (amount := amt) rfl he4 HFL.out m0' m1' m2' rfl m3' t0' i33' 110 fa rfl); have HC5 := Lib.hid i35'; have HX4 := Lib.hid hx4; have HTT := Lib.hid t0'; clear hb4 m0 m1 m2 m3 t0 i33 he3 i35 cl m0' m1' m2' m3' t0' i33' i35' he4 hx4)
      | (go_at_call 14; refine HN.out.mono ?_; rintro e w5 ⟨eb, scs, rfl, hge, hb5, hE5⟩; have HB5 := Lib.hid hb5; have HS5 := Lib.hid (HS4.out.keep (hb5.block w.heap.size hlt4)); have HE5 := Lib.hid hE5; have HGE := Lib.hid hge; clear hb5 hE5 hge))
  go_wp2_with fail
  go_ret2
  have z1 : w.heap.size ≤ w1.heap.size := Nat.le_of_lt hlt1
  refine ⟨_, rfl, HK1.out.trans (((Below.refl _ _).drew).trans ((HB2.out.mono z1).trans ((HB3.out.mono (Nat.le_of_lt hlt2)).trans ((HB4.out.mono (Nat.le_of_lt hlt3)).trans (HB5.out.mono (Nat.le_of_lt hlt4)))))), Nat.le_trans (Nat.le_of_lt hlt4) HGE.out, HE5.out, rfl, rfl, rfl, ?_, ?_, tx, ti, txc, rfl, ⟨World.block_lt_of_cell? _ _ HTT.out, HTT.out⟩, ⟨World.block_lt_of_cell? _ _ HC5.out, HC5.out⟩⟩
  · obtain ⟨pp, cc, he, h1, h2, _⟩ := HX4.out
    simp only [Value.slice.injEq] at he
    obtain ⟨_, _, rfl⟩ := he
    exact ⟨h1, h2⟩
  · intro i hi
    obtain ⟨pp, cc, he, h1, h2, h3, h4, h5⟩ := HX4.out
    obtain ⟨b', o', hp, hb', hc⟩ := h5 hl0
    simp only [Value.slice.injEq] at he
    obtain ⟨rfl, _, rfl⟩ := he
    simp only [Option.some.injEq, Addr.mk.injEq] at hp
    obtain ⟨rfl, rfl, _⟩ := hp
    exact ⟨hb', hc i hi⟩
#print axioms engine_any
end Go.Proofs.YtbnjggklinickaaGreatDoorR

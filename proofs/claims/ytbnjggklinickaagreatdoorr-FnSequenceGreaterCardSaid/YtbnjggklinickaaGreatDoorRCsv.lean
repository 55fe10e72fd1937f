import Derived.Test.YtbnjggklinickaaGreatDoorRHand
namespace Go.Proofs.YtbnjggklinickaaGreatDoorR
open Go Go.RowKit

/-- The bytes of a number from 0 to 2^23 - 1, in their usual forms. -/
inductive Num : List Int → Int → Prop where
  | zero : Num [] 0
  | one (b0 : Int) (r0 : 0 ≤ b0 ∧ b0 ≤ 127) : Num [b0] b0
  | two (b0 b1 : Int) (r0 : 0 ≤ b0 ∧ b0 ≤ 255) (r1 : 0 ≤ b1 ∧ b1 ≤ 127) : Num [b0, b1] (b0 + 256 * b1)
  | three (b0 b1 b2 : Int) (r0 : 0 ≤ b0 ∧ b0 ≤ 255) (r1 : 0 ≤ b1 ∧ b1 ≤ 255) (r2 : 0 ≤ b2 ∧ b2 ≤ 127) : Num [b0, b1, b2] (b0 + 256 * b1 + 65536 * b2)

theorem msn_num {M : Nat → Prop} {w : World} {x : Value} {bs : List Int} {n : Int} (hx : Elem M w x bs) (hn : Num bs n) :
    Calls Tryz.prog 157 #[x, .bool false, .int .i64 5] w fun e w' => e = .returned (.tuple #[.int .i64 n, .nilIface]) ∧ w = w' := by
  obtain ⟨p, c, rfl, h1, h2, h3, h4, h5⟩ := hx
  cases hn with
  | zero => exact msn_zero 5 (by decide)
  | one b0 r0 =>
    obtain ⟨b, o, rfl, _, hc⟩ := h5 (by simp)
    exact msn_one 5 (by decide) (hc 0 (by simp)) r0
  | two b0 b1 r0 r1 =>
    obtain ⟨b, o, rfl, _, hc⟩ := h5 (by simp)
    exact msn_two (hc 0 (by simp)) (hc 1 (by simp)) r0 r1
  | three b0 b1 b2 r0 r1 r2 =>
    obtain ⟨b, o, rfl, _, hc⟩ := h5 (by simp)
    exact msn_three (hc 0 (by simp)) (hc 1 (by simp)) (hc 2 (by simp)) r0 r1 r2

/-- What CHECKSEQUENCEVERIFY reads of an engine: the version, and the input's sequence. -/
structure SeqIn (K : EngK) (tx ti txc : Nat) (sq : Int) : Prop where
  hf : K.flags = 16
  txin : K.txin = .slice (some ⟨tx, 0, none⟩) 1 txc
  m0 : K.mem ⟨tx, 0, none⟩ (.pointer (some ⟨ti, 0, none⟩))
  m1 : K.mem ⟨ti, 35, none⟩ (.int .u32 sq)

/-- What a failing opcode's function leaves. -/
def HandDie (K : EngK) (V : EngV) (E : List (List Int)) (c : Int) (w : World) (e : Ending) (w' : World) : Prop :=
  (∃ x : ByteArray, e = .returned (.iface 67 (.agg #[.int .i64 c, .string x]))) ∧ ∃ V', Eng K V' E w' ∧ To K V w V' w'
theorem HandDie.ret {K : EngK} {V : EngV} {E' : List (List Int)} {c : Int} {w : World} (e : Ending) (w' : World) (h : HandDie K V E' c w e w') : ∃ v, e = .returned v := by obtain ⟨⟨x, h⟩, _⟩ := h; exact ⟨_, h⟩
theorem Eng.dies {K : EngK} {V : EngV} {E : List (List Int)} {w w' : World} (h : Eng K V E w) {c : Int} (x : ByteArray) (hb : Below w.heap.size w w') :
    HandDie K V E c w (.returned (.iface 67 (.agg #[.int .i64 c, .string x]))) w' :=
  ⟨⟨x, rfl⟩, V, h.put rfl ((hb.block K.e h.lt).trans h.blk) ((kept_of_below hb).mono fun _ hk => hk.1)⟩

set_option maxHeartbeats 4000000 in
set_option maxRecDepth 100000 in
theorem csv_yes {K : EngK} {V : EngV} {E : List (List Int)} {bs : List Int} {w : World} (h : Eng K V (E ++ [bs]) w) (hl : E.length ≤ 1000) (p : Addr) (dat : Value) {tx ti txc : Nat} {sq n : Int} (hs : SeqIn K tx ti txc sq) (hn : Num bs n)
    (hver : 2 ≤ K.ver % 4294967296) (a b : Int) (ha : 0 ≤ a ∧ a < 65536) (hb : 0 ≤ b ∧ b < 65536) (hab : a ≤ b) (hk : n = a ∧ sq = b ∨ n = 4194304 + a ∧ sq = 4194304 + b) :
    Calls Tryz.prog 88 #[.pointer (some p), dat, .pointer (some ⟨K.e, 0, none⟩)] w (HandPost K V (E ++ [bs]) w) := by
  have c0 : w.cell? ⟨K.e, 0, none⟩ = some (.int .u32 16) := by rw [h.cell 0, ← hs.hf]; rfl
  have c1 : w.cell? ⟨K.e, 1, none⟩ = some (.int .i32 K.ver) := h.cell 1
  have c2 : w.cell? ⟨K.e, 2, none⟩ = some (.slice (some ⟨tx, 0, none⟩) 1 txc) := by rw [h.cell 2, ← hs.txin]; rfl
  have c5 : w.cell? ⟨K.e, 5, none⟩ = some (.int .i64 0) := h.cell 5
  have c24 : w.cell? ⟨K.e, 24, none⟩ = some (.bool false) := h.cell 24
  have m0 := (h.mem _ _ hs.m0).2
  have m1 := (h.mem _ _ hs.m1).2
  have c23 : w.cell? ⟨K.e, 23, none⟩ = some V.stk := h.cell 23
  obtain ⟨D, hD, hE⟩ := h.row
  obtain ⟨D', x, rfl, hE3, hx⟩ := hE.last
  have hl' : D'.length ≤ 1000 := by rw [hE3.length]; exact hl
  have hmsn := msn_num hx hn
  have hx' := hx
  obtain ⟨pp, m, rfl, hm⟩ := hx'
  rcases hD.form with ⟨_, h2⟩ | ⟨g, cap, cur, h1, hg, h3, h4, h5, h6⟩
  · simp at h2
  have hlen : (D' ++ [Value.slice pp bs.length m]).length = D'.length + 1 := by simp
  rw [h1, hlen] at c23
  have hcell : w.cell? ⟨g, D'.length + 1 - 0 - 1, none⟩ = some (.slice pp bs.length m) := Row.cellAt hg h6 _ _ (by simp)
  have h0n : 0 ≤ n := by omega
  have hn31 := i64_and31 n (by omega) (by omega)
  have hs31 := i64_and31 sq (by omega) (by omega)
  have hmn : bits .and .i64 n 4259839 = n := by
    rcases hk with ⟨h, _⟩ | ⟨h, _⟩
    · rw [h]; exact (i64_mask a (by omega) (by omega)).1
    · rw [h]; exact (i64_mask a (by omega) (by omega)).2
  have hms : bits .and .i64 sq 4259839 = sq := by
    rcases hk with ⟨_, h⟩ | ⟨_, h⟩
    · rw [h]; exact (i64_mask b (by omega) (by omega)).1
    · rw [h]; exact (i64_mask b (by omega) (by omega)).2
  have hv : ∀ w, Calls Tryz.prog 158 #[.int .i64 sq, .int .i64 4194304, .int .i64 n] w fun e w' => e = .returned .nilIface ∧ w = w' := fun w => vlt_yes sq 4194304 n (by omega) (by omega)
  have hwq : IntKind.i64.wrap sq = sq := wraps_i64 sq (by omega) (by omega)
  have hpeek := peek_any (o := 23) c23 (by omega) 0 0 rfl (by omega) hcell
  have hfl : (bits .and .u32 16 16 == 16) = true := by decide
  have hflag := hasFlag_any (g := 16) c0
  rw [hfl] at hflag
  have hpost : ∀ d, HandPost K V (E ++ [bs]) w (.returned .nilIface) (w.drewN d) := fun d => ⟨rfl, V.stk, (h.drewN d).1, (h.drewN d).2⟩
  have HFL := Lib.hid hflag
  have HPK := Lib.hid hpeek
  have HMS := Lib.hid hmsn
  have HVL := Lib.hid hv
  have HP := Lib.hid hpost
  clear h hD hE hE3 hx hm hg h6 h1 hlen hs hk hn hab ha hb hflag hpeek hmsn hv hpost hfl h3 h4 h5 hl
  go_enter Tryz.func88, Tryz.ntmps88
  go_wp2_with first
    | (go_at_call 23; refine HFL.out.mono ?_; rintro e w' ⟨rfl, rfl⟩)
    | (go_at_call 43; refine HPK.out.mono ?_; rintro e w' ⟨rfl, rfl⟩)
    | (go_at_call 157; refine HMS.out.mono ?_; rintro e w' ⟨rfl, rfl⟩)
  go_quiet (fail)
  clear hwq
  go_wp2_with fail
  refine (HVL.out _).mono ?_
  rintro e w' ⟨rfl, rfl⟩
  go_wp2_with fail
  go_ret
  exact HP.out _
#print axioms csv_yes

set_option maxHeartbeats 4000000 in
set_option maxRecDepth 100000 in
theorem csv_no {K : EngK} {V : EngV} {E : List (List Int)} {bs : List Int} {w : World} (h : Eng K V (E ++ [bs]) w) (hl : E.length ≤ 1000) (p : Addr) (dat : Value) {tx ti txc : Nat} {sq n : Int} (hs : SeqIn K tx ti txc sq) (hn : Num bs n)
    (a b : Int) (ha : 0 ≤ a ∧ a < 65536) (hb : 0 ≤ b ∧ b < 65536) (hab : b < a) (hk : n = a ∧ sq = b ∨ n = 4194304 + a ∧ sq = 4194304 + b) :
    Calls Tryz.prog 88 #[.pointer (some p), dat, .pointer (some ⟨K.e, 0, none⟩)] w (HandDie K V (E ++ [bs]) 57 w) := by
  have c0 : w.cell? ⟨K.e, 0, none⟩ = some (.int .u32 16) := by rw [h.cell 0, ← hs.hf]; rfl
  have c1 : w.cell? ⟨K.e, 1, none⟩ = some (.int .i32 K.ver) := h.cell 1
  have c2 : w.cell? ⟨K.e, 2, none⟩ = some (.slice (some ⟨tx, 0, none⟩) 1 txc) := by rw [h.cell 2, ← hs.txin]; rfl
  have c5 : w.cell? ⟨K.e, 5, none⟩ = some (.int .i64 0) := h.cell 5
  have c24 : w.cell? ⟨K.e, 24, none⟩ = some (.bool false) := h.cell 24
  have m0 := (h.mem _ _ hs.m0).2
  have m1 := (h.mem _ _ hs.m1).2
  have c23 : w.cell? ⟨K.e, 23, none⟩ = some V.stk := h.cell 23
  obtain ⟨D, hD, hE⟩ := h.row
  obtain ⟨D', x, rfl, hE3, hx⟩ := hE.last
  have hl' : D'.length ≤ 1000 := by rw [hE3.length]; exact hl
  have hmsn := msn_num hx hn
  have hx' := hx
  obtain ⟨pp, m, rfl, hm⟩ := hx'
  rcases hD.form with ⟨_, h2⟩ | ⟨g, cap, cur, h1, hg, h3, h4, h5, h6⟩
  · simp at h2
  have hlen : (D' ++ [Value.slice pp bs.length m]).length = D'.length + 1 := by simp
  rw [h1, hlen] at c23
  have hcell : w.cell? ⟨g, D'.length + 1 - 0 - 1, none⟩ = some (.slice pp bs.length m) := Row.cellAt hg h6 _ _ (by simp)
  have h0n : 0 ≤ n := by omega
  have hn31 := i64_and31 n (by omega) (by omega)
  have hs31 := i64_and31 sq (by omega) (by omega)
  have hmn : bits .and .i64 n 4259839 = n := by
    rcases hk with ⟨h, _⟩ | ⟨h, _⟩
    · rw [h]; exact (i64_mask a (by omega) (by omega)).1
    · rw [h]; exact (i64_mask a (by omega) (by omega)).2
  have hms : bits .and .i64 sq 4259839 = sq := by
    rcases hk with ⟨_, h⟩ | ⟨_, h⟩
    · rw [h]; exact (i64_mask b (by omega) (by omega)).1
    · rw [h]; exact (i64_mask b (by omega) (by omega)).2
  have hv : ∀ w, Calls Tryz.prog 158 #[.int .i64 sq, .int .i64 4194304, .int .i64 n] w fun e w' => Fails 57 w e w' := fun w => vlt_no sq 4194304 n (by omega) (by omega)
  have hwq : IntKind.i64.wrap sq = sq := wraps_i64 sq (by omega) (by omega)
  have hpeek := peek_any (o := 23) c23 (by omega) 0 0 rfl (by omega) hcell
  have hfl : (bits .and .u32 16 16 == 16) = true := by decide
  have hflag := hasFlag_any (g := 16) c0
  rw [hfl] at hflag
  have hpost := h
  have HFL := Lib.hid hflag
  have HPK := Lib.hid hpeek
  have HMS := Lib.hid hmsn
  have HVL := Lib.hid hv
  have HP := Lib.hid hpost
  clear h hD hE hE3 hx hm hg h6 h1 hlen hs hk hn hab ha hb hflag hpeek hmsn hv hpost hfl h3 h4 h5 hl
  go_enter Tryz.func88, Tryz.ntmps88
  go_wp2_with first
    | (go_at_call 23; refine HFL.out.mono ?_; rintro e w' ⟨rfl, rfl⟩)
    | (go_at_call 43; refine HPK.out.mono ?_; rintro e w' ⟨rfl, rfl⟩)
    | (go_at_call 157; refine HMS.out.mono ?_; rintro e w' ⟨rfl, rfl⟩)
  · go_wp2_with fail
    refine (scriptError_any _ _ _).mono ?_
    rintro e w' ⟨rfl, rfl⟩
    go_wp2_with fail
    go_ret
    exact HP.out.dies _ (Below.refl _ _ |>.alloc (Nat.le_refl _) _)
  · go_quiet (fail)
    clear hwq
    go_wp2_with fail
    refine (HVL.out _).mono ?_
    rintro e w' ⟨x, rfl, hb⟩
    have HB := Lib.hid hb
    clear hb
    go_wp2_with fail
    go_ret
    exact HP.out.dies x ((Kept.below ((Kept.refl _ _).drewN _)).trans HB.out)
#print axioms csv_no

set_option maxHeartbeats 4000000 in
set_option maxRecDepth 100000 in
theorem csv_old {K : EngK} {V : EngV} {E : List (List Int)} {bs : List Int} {w : World} (h : Eng K V (E ++ [bs]) w) (hl : E.length ≤ 1000) (p : Addr) (dat : Value) {tx ti txc : Nat} {sq n : Int} (hs : SeqIn K tx ti txc sq) (hn : Num bs n)
    (a b : Int) (ha : 0 ≤ a ∧ a < 65536) (hb : 0 ≤ b ∧ b < 65536) (hver : K.ver % 4294967296 < 2) (hk : n = a ∧ sq = b ∨ n = 4194304 + a ∧ sq = 4194304 + b) :
    Calls Tryz.prog 88 #[.pointer (some p), dat, .pointer (some ⟨K.e, 0, none⟩)] w (HandDie K V (E ++ [bs]) 57 w) := by
  have c0 : w.cell? ⟨K.e, 0, none⟩ = some (.int .u32 16) := by rw [h.cell 0, ← hs.hf]; rfl
  have c1 : w.cell? ⟨K.e, 1, none⟩ = some (.int .i32 K.ver) := h.cell 1
  have c2 : w.cell? ⟨K.e, 2, none⟩ = some (.slice (some ⟨tx, 0, none⟩) 1 txc) := by rw [h.cell 2, ← hs.txin]; rfl
  have c5 : w.cell? ⟨K.e, 5, none⟩ = some (.int .i64 0) := h.cell 5
  have c24 : w.cell? ⟨K.e, 24, none⟩ = some (.bool false) := h.cell 24
  have m0 := (h.mem _ _ hs.m0).2
  have m1 := (h.mem _ _ hs.m1).2
  have c23 : w.cell? ⟨K.e, 23, none⟩ = some V.stk := h.cell 23
  obtain ⟨D, hD, hE⟩ := h.row
  obtain ⟨D', x, rfl, hE3, hx⟩ := hE.last
  have hl' : D'.length ≤ 1000 := by rw [hE3.length]; exact hl
  have hmsn := msn_num hx hn
  have hx' := hx
  obtain ⟨pp, m, rfl, hm⟩ := hx'
  rcases hD.form with ⟨_, h2⟩ | ⟨g, cap, cur, h1, hg, h3, h4, h5, h6⟩
  · simp at h2
  have hlen : (D' ++ [Value.slice pp bs.length m]).length = D'.length + 1 := by simp
  rw [h1, hlen] at c23
  have hcell : w.cell? ⟨g, D'.length + 1 - 0 - 1, none⟩ = some (.slice pp bs.length m) := Row.cellAt hg h6 _ _ (by simp)
  have h0n : 0 ≤ n := by omega
  have hn31 := i64_and31 n (by omega) (by omega)
  have hs31 := i64_and31 sq (by omega) (by omega)
  have hmn : bits .and .i64 n 4259839 = n := by
    rcases hk with ⟨h, _⟩ | ⟨h, _⟩
    · rw [h]; exact (i64_mask a (by omega) (by omega)).1
    · rw [h]; exact (i64_mask a (by omega) (by omega)).2
  have hms : bits .and .i64 sq 4259839 = sq := by
    rcases hk with ⟨_, h⟩ | ⟨_, h⟩
    · rw [h]; exact (i64_mask b (by omega) (by omega)).1
    · rw [h]; exact (i64_mask b (by omega) (by omega)).2
  have hwq : IntKind.i64.wrap sq = sq := wraps_i64 sq (by omega) (by omega)
  have hpeek := peek_any (o := 23) c23 (by omega) 0 0 rfl (by omega) hcell
  have hfl : (bits .and .u32 16 16 == 16) = true := by decide
  have hflag := hasFlag_any (g := 16) c0
  rw [hfl] at hflag
  have hpost := h
  have HFL := Lib.hid hflag
  have HPK := Lib.hid hpeek
  have HMS := Lib.hid hmsn
  have HP := Lib.hid hpost
  clear h hD hE hE3 hx hm hg h6 h1 hlen hs hk hn ha hb hflag hpeek hmsn hpost hfl h3 h4 h5 hl
  go_enter Tryz.func88, Tryz.ntmps88
  go_wp2_with first
    | (go_at_call 23; refine HFL.out.mono ?_; rintro e w' ⟨rfl, rfl⟩)
    | (go_at_call 43; refine HPK.out.mono ?_; rintro e w' ⟨rfl, rfl⟩)
    | (go_at_call 157; refine HMS.out.mono ?_; rintro e w' ⟨rfl, rfl⟩)
  refine (scriptError_any _ _ _).mono ?_
  rintro e w' ⟨rfl, rfl⟩
  go_wp2_with fail
  go_ret
  exact HP.out.dies _ (Below.refl _ _ |>.alloc (Nat.le_refl _) _)
#print axioms csv_old
end Go.Proofs.YtbnjggklinickaaGreatDoorR

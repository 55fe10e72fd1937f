import Derived.Test.YtbnjggklinickaaGreatDoorRSeq
namespace Go.Proofs.YtbnjggklinickaaGreatDoorR
open Go Go.RowKit

/-- A run that is let. -/
def Let (K : EngK) (w : World) (e : Ending) (w' : World) : Prop := e = .returned .nilIface ∧ ∃ V', Eng K V' [] w' ∧ To K V0 w V' w'
/-- A run that CHECKSEQUENCEVERIFY refuses. -/
def Refused (K : EngK) (bs : List Int) (w : World) (e : Ending) (w' : World) : Prop := (∃ x : ByteArray, e = .returned (.iface 67 (.agg #[.int .i64 57, .string x]))) ∧ ∃ V', Eng K V' [bs] w' ∧ To K V0 w V' w'

theorem seqIn {K : EngK} {sc : List Int} {ver sq : Int} (ho : EngineOf K sc ver sq 16) : ∃ tx ti txc, SeqIn K tx ti txc sq := by
  obtain ⟨tx, ti, txc, h1, h2, h3⟩ := ho.tx
  exact ⟨tx, ti, txc, ho.flags, h1, h2, h3⟩

theorem at_rest (pre : List Int) (k : Nat) : (pre ++ [178, 117, 81])[pre.length + k]? = ([178, 117, 81] : List Int)[k]? := by rw [List.getElem?_append_right (by omega)]; simp

theorem goes_yes {K : EngK} {w : World} {pre bs : List Int} {ver sq n : Int} (h : Eng K V0 [] w) (hp : Pushes pre bs) (hpl : pre.length ≤ 4) (hr : ∀ m ∈ bs, 0 ≤ m ∧ m ≤ 255) (hnum : Num bs n) (ho : EngineOf K (pre ++ [178, 117, 81]) ver sq 16)
    (hver : 2 ≤ ver % 4294967296) (a b : Int) (ha : 0 ≤ a ∧ a < 65536) (hb : 0 ≤ b ∧ b < 65536) (hab : a ≤ b) (hk : n = a ∧ sq = b ∨ n = 4194304 + a ∧ sq = 4194304 + b) : Goes K.e (Let K w) 4 w := by
  have hL : K.L = pre.length + 3 := by rw [ho.len]; simp
  have hsl : (pre ++ [178, 117, 81]).length ≤ 10000 := by simp; omega
  obtain ⟨tx, ti, txc, hsq⟩ := seqIn ho
  refine (push_step h hp hr ho).mono ?_
  rintro e w1 ⟨rfl, V1, E1, T1, si1, off1, pos1, ops1, oi1⟩
  refine .inl ⟨rfl, E1.cell 33, ?_⟩
  have hN1 := nexts_one E1 ho hsl (by omega) (v := 178) (by rw [off1]; exact at_rest pre 0) of_178
  have hD1 : Does K V1 ([] ++ [bs]) ([] ++ [bs]) (V1.nops + 1) 178 (V1.off + 1) (V1.pos + 1) none 0 0 w1 :=
    does_hi (fun h0 hR hr => run_178 h0 hR hr) (by decide) (by decide) (by decide) (by omega) (fun p w2 V2 hE _ _ => csv_yes hE (by simp) _ _ hsq hnum (by rw [ho.ver]; exact hver) a b ha hb hab hk)
  refine (step_goes E1 (by omega) si1 (by omega) (by omega) (by simp) hN1 hD1).mono ?_
  rintro e w2 ⟨rfl, V2, E2, T2, si2, off2, pos2, ops2, oi2⟩
  refine .inl ⟨rfl, E2.cell 33, ?_⟩
  have hN2 := nexts_one E2 ho hsl (by omega) (v := 117) (by rw [off2, off1]; exact at_rest pre 1) of_117
  have hD2 : Does K V2 ([] ++ [bs]) [] (V2.nops + 1) 117 (V2.off + 1) (V2.pos + 1) none 0 0 w2 :=
    does_hi (fun h0 hR hr => run_117 h0 hR hr) (by decide) (by decide) (by decide) (by omega) (fun p w3 V3 hE _ _ => drop_any hE (by simp) _ _)
  refine (step_goes E2 (by omega) si2 (by omega) (by omega) (by simp) hN2 hD2).mono ?_
  rintro e w3 ⟨rfl, V3, E3, T3, si3, off3, pos3, ops3, oi3⟩
  refine .inl ⟨rfl, E3.cell 33, ?_⟩
  have hN3 := nexts_one E3 ho hsl (by omega) (v := 81) (by rw [off3, off2, off1]; exact at_rest pre 2) of_81
  have hD3 : Does K V3 [] ([] ++ [[((1 : Nat) : Int)]]) V3.nops 81 (V3.off + 1) (V3.pos + 1) none 0 0 w3 :=
    does_lo (fun h0 hR hr => run_81 h0 hR hr) (by decide) (by decide) (by decide) (fun p w4 V4 hE _ hc => opcodeN_any hE (by simp) p _ 1 (by decide) (by decide) _ rfl hc)
  refine (step_ends E3 (by omega) si3 (by omega) (by omega) (by simp) hN3 hD3).mono ?_
  rintro e w4 ⟨rfl, V4, E4, T4, si4⟩
  refine .inr (.inl ⟨rfl, E4.cell 33, ?_⟩)
  refine (checkErr_one (E := []) E4 (by simp) si4 (by rw [ho.flags]; decide)).mono ?_
  rintro e w5 ⟨rfl, s, E5, T5⟩
  exact ⟨rfl, _, E5, T1.trans (T2.trans (T3.trans (T4.trans T5)))⟩
#print axioms goes_yes

theorem goes_no {K : EngK} {w : World} {pre bs : List Int} {ver sq n : Int} (h : Eng K V0 [] w) (hp : Pushes pre bs) (hpl : pre.length ≤ 4) (hr : ∀ m ∈ bs, 0 ≤ m ∧ m ≤ 255) (hnum : Num bs n) (ho : EngineOf K (pre ++ [178, 117, 81]) ver sq 16)
    (a b : Int) (ha : 0 ≤ a ∧ a < 65536) (hb : 0 ≤ b ∧ b < 65536) (hbad : ¬ 2 ≤ ver % 4294967296 ∨ b < a) (hk : n = a ∧ sq = b ∨ n = 4194304 + a ∧ sq = 4194304 + b) : Goes K.e (Refused K bs w) 4 w := by
  have hL : K.L = pre.length + 3 := by rw [ho.len]; simp
  have hsl : (pre ++ [178, 117, 81]).length ≤ 10000 := by simp; omega
  obtain ⟨tx, ti, txc, hsq⟩ := seqIn ho
  refine (push_step h hp hr ho).mono ?_
  rintro e w1 ⟨rfl, V1, E1, T1, si1, off1, pos1, ops1, oi1⟩
  refine .inl ⟨rfl, E1.cell 33, ?_⟩
  have hN1 := nexts_one E1 ho hsl (by omega) (v := 178) (by rw [off1]; exact at_rest pre 0) of_178
  have hD1 : Dies K V1 ([] ++ [bs]) 57 178 (V1.off + 1) (V1.pos + 1) none 0 0 w1 :=
    dies_hi (fun h0 hR hr => run_178 h0 hR hr) (by decide) (by decide) (by decide) (by omega) (fun p w2 V2 hE _ _ => by
      rcases hbad with hv | hba
      · exact csv_old hE (by simp) _ _ hsq hnum a b ha hb (by rw [ho.ver]; omega) hk
      · exact csv_no hE (by simp) _ _ hsq hnum a b ha hb hba hk)
  refine (step_die E1 (by omega) si1 (by omega) hN1 hD1).mono ?_
  rintro e w2 ⟨x, V2, rfl, E2, T2⟩
  exact .inr (.inr ⟨_, _, rfl, ⟨x, rfl⟩, V2, E2, T1.trans T2⟩)
#print axioms goes_no
end Go.Proofs.YtbnjggklinickaaGreatDoorR

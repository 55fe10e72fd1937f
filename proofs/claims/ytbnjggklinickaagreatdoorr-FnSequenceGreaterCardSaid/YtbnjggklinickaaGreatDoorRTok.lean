import Derived.Test.YtbnjggklinickaaGreatDoorREngine
import Derived.Test.YtbnjggklinickaaGreatDoorROpA
import Derived.Test.YtbnjggklinickaaGreatDoorROpB
import Derived.Test.YtbnjggklinickaaGreatDoorROpC
import Derived.Test.YtbnjggklinickaaGreatDoorRRunA
import Derived.Test.YtbnjggklinickaaGreatDoorRRunB
namespace Go.Proofs.YtbnjggklinickaaGreatDoorR
open Go Go.RowKit

theorem Eng.tokIn {K : EngK} {V : EngV} {E : List (List Int)} {w : World} {bs : List Int} {ver sq rules : Int} (h : Eng K V E w) (ho : EngineOf K bs ver sq rules) (h0 : 0 < bs.length) (hl : bs.length ≤ 10000) (hp : -1 ≤ V.pos ∧ V.pos ≤ 10000) :
    TokIn K.e 15 84 (engCells K V) w K.sb K.so K.L K.cap V.off V.pos :=
  ⟨h.blk, rfl, rfl, rfl, ⟨_, rfl⟩, ⟨_, rfl⟩, rfl, (h.mem _ _ (ho.bytes 0 h0)).1.2.1, by rw [ho.len]; omega, ⟨hp.1, by omega⟩, ho.cap⟩

theorem Eng.byte {K : EngK} {V : EngV} {E : List (List Int)} {w : World} {bs : List Int} {ver sq rules : Int} (h : Eng K V E w) (ho : EngineOf K bs ver sq rules) {i : Nat} {v : Int} (hv : bs[i]? = some v) : w.cell? ⟨K.sb, K.so + i, none⟩ = some (.int .u8 v) := by
  have hlt := (List.getElem?_eq_some_iff.1 hv).1
  have := (h.mem _ _ (ho.bytes i hlt)).2
  rw [this]
  simp [List.getD, hv]

theorem nexts_one {K : EngK} {V : EngV} {E : List (List Int)} {w : World} {bs : List Int} {ver sq rules : Int} (h : Eng K V E w) (ho : EngineOf K bs ver sq rules) (hl : bs.length ≤ 10000) (hp : -1 ≤ V.pos ∧ V.pos ≤ 10000) {v : Int} (hv : bs[V.off]? = some v)
    (hop : ∀ w, Calls Tryz.prog 53 #[.int .u8 v] w (OpMade v 1 w)) : Nexts K V v 1 (V.off + 1) (V.pos + 1) (.slice none 0 0) w := fun d => by
  have hlt := (List.getElem?_eq_some_iff.1 hv).1
  exact next_one ((h.drewN d).1.tokIn ho (by omega) hl hp) (by rw [ho.len]; exact hlt) ((h.drewN d).1.byte ho hv) hop

theorem nexts_data {K : EngK} {V : EngV} {E : List (List Int)} {w : World} {bs : List Int} {ver sq rules : Int} (h : Eng K V E w) (ho : EngineOf K bs ver sq rules) (hl : bs.length ≤ 10000) (hp : -1 ≤ V.pos ∧ V.pos ≤ 10000) {v : Int} (n : Nat) (h1 : 1 ≤ n) (h75 : n ≤ 75) (hle : V.off + n + 1 ≤ bs.length) (hv : bs[V.off]? = some v)
    (hop : ∀ w, Calls Tryz.prog 53 #[.int .u8 v] w (OpMade v ((n + 1 : Nat) : Int) w)) : Nexts K V v ((n + 1 : Nat) : Int) (V.off + (n + 1)) (V.pos + 1) (.slice (some ⟨K.sb, K.so + V.off + 1, none⟩) n (K.cap - V.off - 1)) w := fun d =>
  next_data ((h.drewN d).1.tokIn ho (by omega) hl hp) n h1 h75 (by rw [ho.len]; exact hle) ((h.drewN d).1.byte ho hv) hop

/-- How an opcode's function is met. -/
def RunAs (v : Int) (f : FuncId) : Prop := ∀ {w : World} {b : Nat} {d : Value} {e : Addr} {R : Ending → World → Prop}, w.cell? ⟨b, 0, none⟩ = some (.int .u8 v) → Hid (Calls Tryz.prog f #[.pointer (some ⟨b, 0, none⟩), d, .pointer (some e)] w R) → (∀ e w', R e w' → ∃ v, e = .returned v) →
  Calls Tryz.prog 61 #[.pointer (some ⟨b, 0, none⟩), d, .pointer (some e)] w R

theorem does_lo {K : EngK} {V : EngV} {E E' : List (List Int)} {w : World} {v : Int} {f : FuncId} (hrun : RunAs v f) (h0 : 0 ≤ v) (h96 : v ≤ 96) {off' : Nat} {pos' : Int} {dp : Option Addr} {dn dk : Nat} (hn : dn ≤ 520)
    (hh : ∀ p w1 V1, Eng K V1 E w1 → To K V w V1 w1 → w1.cell? ⟨p, 0, none⟩ = some (.int .u8 v) → Calls Tryz.prog f #[.pointer (some ⟨p, 0, none⟩), .slice dp dn dk, .pointer (some ⟨K.e, 0, none⟩)] w1 (HandPost K V1 E' w1)) :
    Does K V E E' V.nops v off' pos' dp dn dk w := by
  intro p w1 hE hT hc hL
  exact exec_lo hE hc h0 h96 hn (hrun hc (Lib.hid (hh p w1 _ hE hT hc)) HandPost.ret) (fun e w' hp => ⟨_, hp.1⟩)

theorem ops_put {K : EngK} {V : EngV} {E : List (List Int)} {w : World} (h : Eng K V E w) (n : Int) : Eng K { V with nops := n } E (w.setCell ⟨K.e, 28, none⟩ (.int .i64 n)) ∧ To K V w { V with nops := n } (w.setCell ⟨K.e, 28, none⟩ (.int .i64 n)) :=
  h.put rfl (block_setCell h.blk 28 _) (Kept.setCell (Kept.refl _ _) (fun h => h.2 rfl) _)

theorem does_hi {K : EngK} {V : EngV} {E E' : List (List Int)} {w : World} {v : Int} {f : FuncId} (hrun : RunAs v f) (h0 : 96 < v) (hbad : v ∉ badOps) (hill : v ≠ 101 ∧ v ≠ 102 ∧ v ≠ 171) (hops : 0 ≤ V.nops ∧ V.nops ≤ 200) {off' : Nat} {pos' : Int} {dp : Option Addr} {dn dk : Nat}
    (hh : ∀ p w1 V1, Eng K V1 E w1 → To K V w V1 w1 → w1.cell? ⟨p, 0, none⟩ = some (.int .u8 v) → Calls Tryz.prog f #[.pointer (some ⟨p, 0, none⟩), .slice dp dn dk, .pointer (some ⟨K.e, 0, none⟩)] w1 (HandPost K V1 E' w1)) :
    Does K V E E' (V.nops + 1) v off' pos' dp dn dk w := by
  intro p w1 hE hT hc hL
  obtain ⟨hE2, hT2⟩ := ops_put hE (V.nops + 1)
  have hc2 : (w1.setCell ⟨K.e, 28, none⟩ (.int .i64 (V.nops + 1))).cell? ⟨p, 0, none⟩ = some (.int .u8 v) := by
    rw [World.cell?_setCell_other _ _ _ _ (by intro e; exact hL.2.1 (by simpa using (congrArg Addr.block e).symm))]; exact hc
  refine exec_hi hE hc h0 hbad hill hops hL.2.1 (R := fun e w2 => e = .returned .nilIface ∧ ∃ s, Eng K { (V.tok p off' pos' (.slice dp dn dk)) with stk := s, nops := V.nops + 1 } E' w2 ∧ To K (V.tok p off' pos' (.slice dp dn dk)) w1 { (V.tok p off' pos' (.slice dp dn dk)) with stk := s, nops := V.nops + 1 } w2) ?_ (fun e w' hp => ⟨_, hp.1⟩)
  refine hrun hc2 (Lib.hid ((hh p _ _ hE2 (hT.trans hT2) hc2).mono ?_)) (fun e w' hp => ⟨_, hp.1⟩)
  rintro e w2 ⟨rfl, s, hE3, hT3⟩
  exact ⟨rfl, s, hE3, hT2.trans hT3⟩

theorem dies_hi {K : EngK} {V : EngV} {E : List (List Int)} {w : World} {v c : Int} {f : FuncId} (hrun : RunAs v f) (h0 : 96 < v) (hbad : v ∉ badOps) (hill : v ≠ 101 ∧ v ≠ 102 ∧ v ≠ 171) (hops : 0 ≤ V.nops ∧ V.nops ≤ 200) {off' : Nat} {pos' : Int} {dp : Option Addr} {dn dk : Nat}
    (hh : ∀ p w1 V1, Eng K V1 E w1 → To K V w V1 w1 → w1.cell? ⟨p, 0, none⟩ = some (.int .u8 v) → Calls Tryz.prog f #[.pointer (some ⟨p, 0, none⟩), .slice dp dn dk, .pointer (some ⟨K.e, 0, none⟩)] w1 (HandDie K V1 E c w1)) :
    Dies K V E c v off' pos' dp dn dk w := by
  intro p w1 hE hT hc hL
  obtain ⟨hE2, hT2⟩ := ops_put hE (V.nops + 1)
  have hc2 : (w1.setCell ⟨K.e, 28, none⟩ (.int .i64 (V.nops + 1))).cell? ⟨p, 0, none⟩ = some (.int .u8 v) := by
    rw [World.cell?_setCell_other _ _ _ _ (by intro e; exact hL.2.1 (by simpa using (congrArg Addr.block e).symm))]; exact hc
  refine exec_hi hE hc h0 hbad hill hops hL.2.1 (R := fun e w2 => (∃ x : ByteArray, e = .returned (.iface 67 (.agg #[.int .i64 c, .string x]))) ∧ ∃ V', Eng K V' E w2 ∧ To K (V.tok p off' pos' (.slice dp dn dk)) w1 V' w2) ?_ (fun e w' hp => by obtain ⟨⟨x, h⟩, _⟩ := hp; exact ⟨_, h⟩)
  refine hrun hc2 (Lib.hid ((hh p _ _ hE2 (hT.trans hT2) hc2).mono ?_)) (fun e w' hp => by obtain ⟨⟨x, h⟩, _⟩ := hp; exact ⟨_, h⟩)
  rintro e w2 ⟨hx, V', hE3, hT3⟩
  exact ⟨hx, V', hE3, hT2.trans hT3⟩

/-- Tokens that push a number's bytes. -/
inductive Pushes : List Int → List Int → Prop where
  | zero : Pushes [0] []
  | small (n : Nat) (h1 : 1 ≤ n) (h2 : n ≤ 16) : Pushes [80 + (n : Int)] [(n : Int)]
  | one (b0 : Int) : Pushes [1, b0] [b0]
  | two (b0 b1 : Int) : Pushes [2, b0, b1] [b0, b1]
  | three (b0 b1 b2 : Int) : Pushes [3, b0, b1, b2] [b0, b1, b2]

theorem of_small (n : Nat) (h1 : 1 ≤ n) (h2 : n ≤ 16) (w : World) : Calls Tryz.prog 53 #[.int .u8 (80 + (n : Int))] w (OpMade (80 + (n : Int)) 1 w) := by
  have : n = 1 ∨ n = 2 ∨ n = 3 ∨ n = 4 ∨ n = 5 ∨ n = 6 ∨ n = 7 ∨ n = 8 ∨ n = 9 ∨ n = 10 ∨ n = 11 ∨ n = 12 ∨ n = 13 ∨ n = 14 ∨ n = 15 ∨ n = 16 := by omega
  rcases this with rfl | rfl | rfl | rfl | rfl | rfl | rfl | rfl | rfl | rfl | rfl | rfl | rfl | rfl | rfl | rfl
  · exact of_81 w
  · exact of_82 w
  · exact of_83 w
  · exact of_84 w
  · exact of_85 w
  · exact of_86 w
  · exact of_87 w
  · exact of_88 w
  · exact of_89 w
  · exact of_90 w
  · exact of_91 w
  · exact of_92 w
  · exact of_93 w
  · exact of_94 w
  · exact of_95 w
  · exact of_96 w

theorem run_small (n : Nat) (h1 : 1 ≤ n) (h2 : n ≤ 16) : RunAs (80 + (n : Int)) 79 := by
  have : n = 1 ∨ n = 2 ∨ n = 3 ∨ n = 4 ∨ n = 5 ∨ n = 6 ∨ n = 7 ∨ n = 8 ∨ n = 9 ∨ n = 10 ∨ n = 11 ∨ n = 12 ∨ n = 13 ∨ n = 14 ∨ n = 15 ∨ n = 16 := by omega
  intro w b d e R h0 hR hr
  rcases this with rfl | rfl | rfl | rfl | rfl | rfl | rfl | rfl | rfl | rfl | rfl | rfl | rfl | rfl | rfl | rfl
  · exact run_81 h0 hR hr
  · exact run_82 h0 hR hr
  · exact run_83 h0 hR hr
  · exact run_84 h0 hR hr
  · exact run_85 h0 hR hr
  · exact run_86 h0 hR hr
  · exact run_87 h0 hR hr
  · exact run_88 h0 hR hr
  · exact run_89 h0 hR hr
  · exact run_90 h0 hR hr
  · exact run_91 h0 hR hr
  · exact run_92 h0 hR hr
  · exact run_93 h0 hR hr
  · exact run_94 h0 hR hr
  · exact run_95 h0 hR hr
  · exact run_96 h0 hR hr
#print axioms run_small
#print axioms of_small
#print axioms dies_hi
end Go.Proofs.YtbnjggklinickaaGreatDoorR

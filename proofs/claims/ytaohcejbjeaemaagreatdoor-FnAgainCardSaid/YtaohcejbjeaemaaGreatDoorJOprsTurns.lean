import Derived.Test.YtaohcejbjeaemaaGreatDoorJEngineARuns
import Derived.Test.YtaohcejbjeaemaaGreatDoorJOqA
import Derived.Test.YtaohcejbjeaemaaGreatDoorJOqB
import Derived.Test.YtaohcejbjeaemaaGreatDoorJOqC
import Derived.Test.YtaohcejbjeaemaaGreatDoorJOqD
import Derived.Test.YtaohcejbjeaemaaGreatDoorJRuA
import Derived.Test.YtaohcejbjeaemaaGreatDoorJRuB
import Derived.Test.YtaohcejbjeaemaaGreatDoorJRuC
import Derived.Test.YtaohcejbjeaemaaGreatDoorJRuD
namespace Go.Proofs.YtaohcejbjeaemaaGreatDoor
open Go Go.RowKit

theorem opr_hi {TK : EngK → Prop} {v : Int} {E A : List (List Int)} {Q : List (List Int) → List (List Int) → Prop} {f : FuncId} (hof : ∀ w, Calls Tryz.prog 62 #[.int .u8 v] w (OpMade v 1 w)) (hrun : RunAs v f) (h0 : 96 < v) (hbad : v ∉ badOps) (hill : v ≠ 101 ∧ v ≠ 102 ∧ v ≠ 171)
    (hs : ∀ E' A', Q E' A' → E'.length + A'.length ≤ 1000) (hh : ∀ K, TK K → Hands K v f E A Q) : Opr TK v E A Q :=
  ⟨hof, fun K V _ _ _ hT h1 h2 => ⟨V.nops + 1, by omega, by omega, does_hiA hrun h0 hbad hill ⟨h1, h2⟩ (hh K hT)⟩, hs⟩
theorem opr_lo {TK : EngK → Prop} {v : Int} {E A : List (List Int)} {Q : List (List Int) → List (List Int) → Prop} {f : FuncId} (hof : ∀ w, Calls Tryz.prog 62 #[.int .u8 v] w (OpMade v 1 w)) (hrun : RunAs v f) (h0 : 0 ≤ v) (h96 : v ≤ 96)
    (hs : ∀ E' A', Q E' A' → E'.length + A'.length ≤ 1000) (hh : ∀ K, TK K → Hands K v f E A Q) : Opr TK v E A Q :=
  ⟨hof, fun K V _ _ _ hT h1 h2 => ⟨V.nops, by omega, by omega, does_loA hrun h0 h96 (hh K hT)⟩, hs⟩

theorem o_swap {TK : EngK → Prop} {A L L' : List (List Int)} (E : List (List Int)) (a1 a2 : List Int) (hL : L = E ++ [a1, a2]) (hR : L' = E ++ [a2, a1]) (hl : E.length + A.length ≤ 900) : Opr TK 124 L A (fun x y => x = L' ∧ y = A) := by
  subst hL hR
  exact opr_hi of_124 (fun h0 hR hr => run_124 h0 hR hr) (by decide) (by decide) (by decide) (by rintro _ _ ⟨rfl, rfl⟩; first | omega | (simp; omega)) (fun K _ V p w h _ => (h_swap h (by omega) _ _).mono fun e w' hp => ⟨_, _, ⟨rfl, rfl⟩, hp⟩)
theorem o_2swap {TK : EngK → Prop} {A L L' : List (List Int)} (E : List (List Int)) (a1 a2 a3 a4 : List Int) (hL : L = E ++ [a1, a2, a3, a4]) (hR : L' = E ++ [a3, a4, a1, a2]) (hl : E.length + A.length ≤ 900) : Opr TK 114 L A (fun x y => x = L' ∧ y = A) := by
  subst hL hR
  exact opr_hi of_114 (fun h0 hR hr => run_114 h0 hR hr) (by decide) (by decide) (by decide) (by rintro _ _ ⟨rfl, rfl⟩; first | omega | (simp; omega)) (fun K _ V p w h _ => (h_2swap h (by omega) _ _).mono fun e w' hp => ⟨_, _, ⟨rfl, rfl⟩, hp⟩)
theorem o_rot {TK : EngK → Prop} {A L L' : List (List Int)} (E : List (List Int)) (a1 a2 a3 : List Int) (hL : L = E ++ [a1, a2, a3]) (hR : L' = E ++ [a2, a3, a1]) (hl : E.length + A.length ≤ 900) : Opr TK 123 L A (fun x y => x = L' ∧ y = A) := by
  subst hL hR
  exact opr_hi of_123 (fun h0 hR hr => run_123 h0 hR hr) (by decide) (by decide) (by decide) (by rintro _ _ ⟨rfl, rfl⟩; first | omega | (simp; omega)) (fun K _ V p w h _ => (h_rot h (by omega) _ _).mono fun e w' hp => ⟨_, _, ⟨rfl, rfl⟩, hp⟩)
theorem o_2rot {TK : EngK → Prop} {A L L' : List (List Int)} (E : List (List Int)) (a1 a2 a3 a4 a5 a6 : List Int) (hL : L = E ++ [a1, a2, a3, a4, a5, a6]) (hR : L' = E ++ [a3, a4, a5, a6, a1, a2]) (hl : E.length + A.length ≤ 900) : Opr TK 113 L A (fun x y => x = L' ∧ y = A) := by
  subst hL hR
  exact opr_hi of_113 (fun h0 hR hr => run_113 h0 hR hr) (by decide) (by decide) (by decide) (by rintro _ _ ⟨rfl, rfl⟩; first | omega | (simp; omega)) (fun K _ V p w h _ => (h_2rot h (by omega) _ _).mono fun e w' hp => ⟨_, _, ⟨rfl, rfl⟩, hp⟩)
theorem o_dup {TK : EngK → Prop} {A L L' : List (List Int)} (E : List (List Int)) (a1 : List Int) (hL : L = E ++ [a1]) (hR : L' = E ++ [a1, a1]) (hl : E.length + A.length ≤ 900) : Opr TK 118 L A (fun x y => x = L' ∧ y = A) := by
  subst hL hR
  exact opr_hi of_118 (fun h0 hR hr => run_118 h0 hR hr) (by decide) (by decide) (by decide) (by rintro _ _ ⟨rfl, rfl⟩; first | omega | (simp; omega)) (fun K _ V p w h _ => (h_dup h (by omega) _ _).mono fun e w' hp => ⟨_, _, ⟨rfl, rfl⟩, hp⟩)
theorem o_2dup {TK : EngK → Prop} {A L L' : List (List Int)} (E : List (List Int)) (a1 a2 : List Int) (hL : L = E ++ [a1, a2]) (hR : L' = E ++ [a1, a2, a1, a2]) (hl : E.length + A.length ≤ 900) : Opr TK 110 L A (fun x y => x = L' ∧ y = A) := by
  subst hL hR
  exact opr_hi of_110 (fun h0 hR hr => run_110 h0 hR hr) (by decide) (by decide) (by decide) (by rintro _ _ ⟨rfl, rfl⟩; first | omega | (simp; omega)) (fun K _ V p w h _ => (h_2dup h (by omega) _ _).mono fun e w' hp => ⟨_, _, ⟨rfl, rfl⟩, hp⟩)
theorem o_3dup {TK : EngK → Prop} {A L L' : List (List Int)} (E : List (List Int)) (a1 a2 a3 : List Int) (hL : L = E ++ [a1, a2, a3]) (hR : L' = E ++ [a1, a2, a3, a1, a2, a3]) (hl : E.length + A.length ≤ 900) : Opr TK 111 L A (fun x y => x = L' ∧ y = A) := by
  subst hL hR
  exact opr_hi of_111 (fun h0 hR hr => run_111 h0 hR hr) (by decide) (by decide) (by decide) (by rintro _ _ ⟨rfl, rfl⟩; first | omega | (simp; omega)) (fun K _ V p w h _ => (h_3dup h (by omega) _ _).mono fun e w' hp => ⟨_, _, ⟨rfl, rfl⟩, hp⟩)
theorem o_over {TK : EngK → Prop} {A L L' : List (List Int)} (E : List (List Int)) (a1 a2 : List Int) (hL : L = E ++ [a1, a2]) (hR : L' = E ++ [a1, a2, a1]) (hl : E.length + A.length ≤ 900) : Opr TK 120 L A (fun x y => x = L' ∧ y = A) := by
  subst hL hR
  exact opr_hi of_120 (fun h0 hR hr => run_120 h0 hR hr) (by decide) (by decide) (by decide) (by rintro _ _ ⟨rfl, rfl⟩; first | omega | (simp; omega)) (fun K _ V p w h _ => (h_over h (by omega) _ _).mono fun e w' hp => ⟨_, _, ⟨rfl, rfl⟩, hp⟩)
theorem o_2over {TK : EngK → Prop} {A L L' : List (List Int)} (E : List (List Int)) (a1 a2 a3 a4 : List Int) (hL : L = E ++ [a1, a2, a3, a4]) (hR : L' = E ++ [a1, a2, a3, a4, a1, a2]) (hl : E.length + A.length ≤ 900) : Opr TK 112 L A (fun x y => x = L' ∧ y = A) := by
  subst hL hR
  exact opr_hi of_112 (fun h0 hR hr => run_112 h0 hR hr) (by decide) (by decide) (by decide) (by rintro _ _ ⟨rfl, rfl⟩; first | omega | (simp; omega)) (fun K _ V p w h _ => (h_2over h (by omega) _ _).mono fun e w' hp => ⟨_, _, ⟨rfl, rfl⟩, hp⟩)
theorem o_2drop {TK : EngK → Prop} {A L L' : List (List Int)} (E : List (List Int)) (a1 a2 : List Int) (hL : L = E ++ [a1, a2]) (hR : L' = E) (hl : E.length + A.length ≤ 900) : Opr TK 109 L A (fun x y => x = L' ∧ y = A) := by
  subst hL hR
  exact opr_hi of_109 (fun h0 hR hr => run_109 h0 hR hr) (by decide) (by decide) (by decide) (by rintro _ _ ⟨rfl, rfl⟩; first | omega | (simp; omega)) (fun K _ V p w h _ => (h_2drop h (by omega) _ _).mono fun e w' hp => ⟨_, _, ⟨rfl, rfl⟩, hp⟩)
theorem o_nip {TK : EngK → Prop} {A L L' : List (List Int)} (E : List (List Int)) (a1 a2 : List Int) (hL : L = E ++ [a1, a2]) (hR : L' = E ++ [a2]) (hl : E.length + A.length ≤ 900) : Opr TK 119 L A (fun x y => x = L' ∧ y = A) := by
  subst hL hR
  exact opr_hi of_119 (fun h0 hR hr => run_119 h0 hR hr) (by decide) (by decide) (by decide) (by rintro _ _ ⟨rfl, rfl⟩; first | omega | (simp; omega)) (fun K _ V p w h _ => (h_nip h (by omega) _ _).mono fun e w' hp => ⟨_, _, ⟨rfl, rfl⟩, hp⟩)
theorem o_tuck {TK : EngK → Prop} {A L L' : List (List Int)} (E : List (List Int)) (a1 a2 : List Int) (hL : L = E ++ [a1, a2]) (hR : L' = E ++ [a2, a1, a2]) (hl : E.length + A.length ≤ 900) : Opr TK 125 L A (fun x y => x = L' ∧ y = A) := by
  subst hL hR
  exact opr_hi of_125 (fun h0 hR hr => run_125 h0 hR hr) (by decide) (by decide) (by decide) (by rintro _ _ ⟨rfl, rfl⟩; first | omega | (simp; omega)) (fun K _ V p w h _ => (h_tuck h (by omega) _ _).mono fun e w' hp => ⟨_, _, ⟨rfl, rfl⟩, hp⟩)
theorem o_drop {TK : EngK → Prop} {A L L' : List (List Int)} (E : List (List Int)) (a1 : List Int) (hL : L = E ++ [a1]) (hR : L' = E) (hl : E.length + A.length ≤ 900) : Opr TK 117 L A (fun x y => x = L' ∧ y = A) := by
  subst hL hR
  exact opr_hi of_117 (fun h0 hR hr => run_117 h0 hR hr) (by decide) (by decide) (by decide) (by rintro _ _ ⟨rfl, rfl⟩; first | omega | (simp; omega)) (fun K _ V p w h _ => (h_drop h (by omega) _ _).mono fun e w' hp => ⟨_, _, ⟨rfl, rfl⟩, hp⟩)
theorem o_toalt {TK : EngK → Prop} {A L : List (List Int)} (E : List (List Int)) (a1 : List Int) (hL : L = E ++ [a1]) (hl : E.length + A.length ≤ 900) : Opr TK 107 L A (fun x y => x = E ∧ y = A ++ [a1]) := by
  subst hL
  exact opr_hi of_107 (fun h0 hR hr => run_107 h0 hR hr) (by decide) (by decide) (by decide) (by rintro _ _ ⟨rfl, rfl⟩; simp; omega) (fun K _ V p w h _ => (h_toalt h (by omega) (by omega) _ _).mono fun e w' hp => ⟨_, _, ⟨rfl, rfl⟩, hp⟩)
theorem o_fromalt {TK : EngK → Prop} {L' E : List (List Int)} (A : List (List Int)) (a1 : List Int) (hR : L' = E ++ [a1]) (hl : E.length + A.length ≤ 900) : Opr TK 108 E (A ++ [a1]) (fun x y => x = L' ∧ y = A) := by
  subst hR
  exact opr_hi of_108 (fun h0 hR hr => run_108 h0 hR hr) (by decide) (by decide) (by decide) (by rintro _ _ ⟨rfl, rfl⟩; simp; omega) (fun K _ V p w h _ => (h_fromalt h (by omega) (by omega) _ _).mono fun e w' hp => ⟨_, _, ⟨rfl, rfl⟩, hp⟩)
theorem o_false {TK : EngK → Prop} {A L' : List (List Int)} (E : List (List Int)) (hR : L' = E ++ [[]]) (hl : E.length + A.length ≤ 900) : Opr TK 0 E A (fun x y => x = L' ∧ y = A) := by
  subst hR
  exact opr_lo of_0 (fun h0 hR hr => run_0 h0 hR hr) (by decide) (by decide) (by rintro _ _ ⟨rfl, rfl⟩; simp; omega) (fun K _ V p w h _ => (h_false h (by omega) _ _).mono fun e w' hp => ⟨_, _, ⟨rfl, rfl⟩, hp⟩)
theorem o_eqverify {TK : EngK → Prop} {A L : List (List Int)} (E : List (List Int)) (a1 : List Int) (hL : L = E ++ [a1, a1]) (hl : E.length + A.length ≤ 900) : Opr TK 136 L A (fun x y => x = E ∧ y = A) := by
  subst hL
  exact opr_hi of_136 (fun h0 hR hr => run_136 h0 hR hr) (by decide) (by decide) (by decide) (by rintro _ _ ⟨rfl, rfl⟩; omega) (fun K _ V p w h _ => (h_eqverify h (by omega) _).mono fun e w' hp => ⟨_, _, ⟨rfl, rfl⟩, hp⟩)
theorem o_size {TK : EngK → Prop} {A L : List (List Int)} (E : List (List Int)) (a1 : List Int) (hL : L = E ++ [a1]) (ha : a1.length ≤ 520) (hl : E.length + A.length ≤ 900) : Opr TK 130 L A (fun x y => (∃ b, x = E ++ [a1, b]) ∧ y = A) := by
  subst hL
  exact opr_hi of_130 (fun h0 hR hr => run_130 h0 hR hr) (by decide) (by decide) (by decide) (by rintro _ _ ⟨⟨b, rfl⟩, rfl⟩; simp; omega) (fun K _ V p w h _ => (h_size h (by omega) ha _ _).mono fun e w' hp => by obtain ⟨b, hp⟩ := hp; exact ⟨_, _, ⟨⟨b, rfl⟩, rfl⟩, hp⟩)
theorem o_1 {TK : EngK → Prop} {A L' : List (List Int)} (E : List (List Int)) (hR : L' = E ++ [[1]]) (hl : E.length + A.length ≤ 900) : Opr TK 81 E A (fun x y => x = L' ∧ y = A) := by
  subst hR
  exact opr_lo of_81 (fun h0 hR hr => run_81 h0 hR hr) (by decide) (by decide) (by rintro _ _ ⟨rfl, rfl⟩; simp; omega) (fun K _ V p w h hc => (h_N h (by omega) p _ 1 (by decide) (by decide) 81 rfl hc).mono fun e w' hp => ⟨_, _, ⟨rfl, rfl⟩, hp⟩)
theorem o_2 {TK : EngK → Prop} {A L' : List (List Int)} (E : List (List Int)) (hR : L' = E ++ [[2]]) (hl : E.length + A.length ≤ 900) : Opr TK 82 E A (fun x y => x = L' ∧ y = A) := by
  subst hR
  exact opr_lo of_82 (fun h0 hR hr => run_82 h0 hR hr) (by decide) (by decide) (by rintro _ _ ⟨rfl, rfl⟩; simp; omega) (fun K _ V p w h hc => (h_N h (by omega) p _ 2 (by decide) (by decide) 82 rfl hc).mono fun e w' hp => ⟨_, _, ⟨rfl, rfl⟩, hp⟩)
theorem o_5 {TK : EngK → Prop} {A L' : List (List Int)} (E : List (List Int)) (hR : L' = E ++ [[5]]) (hl : E.length + A.length ≤ 900) : Opr TK 85 E A (fun x y => x = L' ∧ y = A) := by
  subst hR
  exact opr_lo of_85 (fun h0 hR hr => run_85 h0 hR hr) (by decide) (by decide) (by rintro _ _ ⟨rfl, rfl⟩; simp; omega) (fun K _ V p w h hc => (h_N h (by omega) p _ 5 (by decide) (by decide) 85 rfl hc).mono fun e w' hp => ⟨_, _, ⟨rfl, rfl⟩, hp⟩)
theorem o_pick0 {TK : EngK → Prop} {A L L' : List (List Int)} (E : List (List Int)) (a1 : List Int) (hL : L = E ++ [a1, []]) (hR : L' = E ++ [a1, a1]) (hl : E.length + A.length ≤ 900) : Opr TK 121 L A (fun x y => x = L' ∧ y = A) := by
  subst hL hR
  exact opr_hi of_121 (fun h0 hR hr => run_121 h0 hR hr) (by decide) (by decide) (by decide) (by rintro _ _ ⟨rfl, rfl⟩; first | omega | (simp; omega)) (fun K _ V p w h _ => (h_pick_0 h (.inl ⟨rfl, rfl⟩) (by omega) _ _).mono fun e w' hp => ⟨_, _, ⟨rfl, rfl⟩, hp⟩)
theorem o_pick5 {TK : EngK → Prop} {A L L' : List (List Int)} (E : List (List Int)) (a1 a2 a3 a4 a5 a6 : List Int) (hL : L = E ++ [a1, a2, a3, a4, a5, a6, [5]]) (hR : L' = E ++ [a1, a2, a3, a4, a5, a6, a1]) (hl : E.length + A.length ≤ 900) : Opr TK 121 L A (fun x y => x = L' ∧ y = A) := by
  subst hL hR
  exact opr_hi of_121 (fun h0 hR hr => run_121 h0 hR hr) (by decide) (by decide) (by decide) (by rintro _ _ ⟨rfl, rfl⟩; first | omega | (simp; omega)) (fun K _ V p w h _ => (h_pick_5 h (.inr ⟨rfl, by decide, by decide⟩) (by omega) _ _).mono fun e w' hp => ⟨_, _, ⟨rfl, rfl⟩, hp⟩)
theorem o_roll0 {TK : EngK → Prop} {A L L' : List (List Int)} (E : List (List Int)) (a1 : List Int) (hL : L = E ++ [a1, []]) (hR : L' = E ++ [a1]) (hl : E.length + A.length ≤ 900) : Opr TK 122 L A (fun x y => x = L' ∧ y = A) := by
  subst hL hR
  exact opr_hi of_122 (fun h0 hR hr => run_122 h0 hR hr) (by decide) (by decide) (by decide) (by rintro _ _ ⟨rfl, rfl⟩; first | omega | (simp; omega)) (fun K _ V p w h _ => (h_roll_0 h (.inl ⟨rfl, rfl⟩) (by omega) _ _).mono fun e w' hp => ⟨_, _, ⟨rfl, rfl⟩, hp⟩)
theorem o_roll1 {TK : EngK → Prop} {A L L' : List (List Int)} (E : List (List Int)) (a1 a2 : List Int) (hL : L = E ++ [a1, a2, [1]]) (hR : L' = E ++ [a2, a1]) (hl : E.length + A.length ≤ 900) : Opr TK 122 L A (fun x y => x = L' ∧ y = A) := by
  subst hL hR
  exact opr_hi of_122 (fun h0 hR hr => run_122 h0 hR hr) (by decide) (by decide) (by decide) (by rintro _ _ ⟨rfl, rfl⟩; first | omega | (simp; omega)) (fun K _ V p w h _ => (h_roll_1 h (.inr ⟨rfl, by decide, by decide⟩) (by omega) _ _).mono fun e w' hp => ⟨_, _, ⟨rfl, rfl⟩, hp⟩)
theorem o_roll2 {TK : EngK → Prop} {A L L' : List (List Int)} (E : List (List Int)) (a1 a2 a3 : List Int) (hL : L = E ++ [a1, a2, a3, [2]]) (hR : L' = E ++ [a2, a3, a1]) (hl : E.length + A.length ≤ 900) : Opr TK 122 L A (fun x y => x = L' ∧ y = A) := by
  subst hL hR
  exact opr_hi of_122 (fun h0 hR hr => run_122 h0 hR hr) (by decide) (by decide) (by decide) (by rintro _ _ ⟨rfl, rfl⟩; first | omega | (simp; omega)) (fun K _ V p w h _ => (h_roll_2 h (.inr ⟨rfl, by decide, by decide⟩) (by omega) _ _).mono fun e w' hp => ⟨_, _, ⟨rfl, rfl⟩, hp⟩)
end Go.Proofs.YtaohcejbjeaemaaGreatDoor
namespace Go.Proofs.YtaohcejbjeaemaaGreatDoor
open Go Go.RowKit

/-- What sha256's opcode is wanted to do. -/
def Sha (TK : EngK → Prop) : Prop := ∀ (E A : List (List Int)) (a : List Int), E.length + A.length ≤ 900 → a.length ≤ 520 → Opr TK 168 (E ++ [a]) A (fun x y => (∃ b, x = E ++ [b]) ∧ y = A)

theorem Opr.cast {TK : EngK → Prop} {v : Int} {E E' A : List (List Int)} {Q : List (List Int) → List (List Int) → Prop} (h : Opr TK v E A Q) (e : E = E') : Opr TK v E' A Q := e ▸ h

theorem turn_0 {TK : EngK → Prop} {X : List (List Int)} {a1 a2 a3 a4 a5 a6 : List Int} (hX : X.length ≤ 400) : Runs TK [124, 124] (X ++ [a1, a2, a3, a4, a5, a6]) [] (X ++ [a1, a2, a3, a4, a5, a6]) [] :=
  (Runs.one (o_swap (L := X ++ [a1, a2, a3, a4, a5, a6]) (L' := X ++ [a1, a2, a3, a4, a6, a5]) (X ++ [a1, a2, a3, a4]) a5 a6 (by simp) (by simp) (by first | (simp; omega) | (simp only [List.length_append, List.length_cons, List.length_nil]; omega)))
  (Runs.one (o_swap (L := X ++ [a1, a2, a3, a4, a6, a5]) (L' := X ++ [a1, a2, a3, a4, a5, a6]) (X ++ [a1, a2, a3, a4]) a6 a5 (by simp) (by simp) (by first | (simp; omega) | (simp only [List.length_append, List.length_cons, List.length_nil]; omega)))
  (.nil _ _)))
theorem turn_1 {TK : EngK → Prop} {X : List (List Int)} {a1 a2 a3 a4 a5 a6 : List Int} (hX : X.length ≤ 400) : Runs TK [123, 123, 123] (X ++ [a1, a2, a3, a4, a5, a6]) [] (X ++ [a1, a2, a3, a4, a5, a6]) [] :=
  (Runs.one (o_rot (L := X ++ [a1, a2, a3, a4, a5, a6]) (L' := X ++ [a1, a2, a3, a5, a6, a4]) (X ++ [a1, a2, a3]) a4 a5 a6 (by simp) (by simp) (by first | (simp; omega) | (simp only [List.length_append, List.length_cons, List.length_nil]; omega)))
  (Runs.one (o_rot (L := X ++ [a1, a2, a3, a5, a6, a4]) (L' := X ++ [a1, a2, a3, a6, a4, a5]) (X ++ [a1, a2, a3]) a5 a6 a4 (by simp) (by simp) (by first | (simp; omega) | (simp only [List.length_append, List.length_cons, List.length_nil]; omega)))
  (Runs.one (o_rot (L := X ++ [a1, a2, a3, a6, a4, a5]) (L' := X ++ [a1, a2, a3, a4, a5, a6]) (X ++ [a1, a2, a3]) a6 a4 a5 (by simp) (by simp) (by first | (simp; omega) | (simp only [List.length_append, List.length_cons, List.length_nil]; omega)))
  (.nil _ _))))
theorem turn_2 {TK : EngK → Prop} {X : List (List Int)} {a1 a2 a3 a4 a5 a6 : List Int} (hX : X.length ≤ 400) : Runs TK [114, 114] (X ++ [a1, a2, a3, a4, a5, a6]) [] (X ++ [a1, a2, a3, a4, a5, a6]) [] :=
  (Runs.one (o_2swap (L := X ++ [a1, a2, a3, a4, a5, a6]) (L' := X ++ [a1, a2, a5, a6, a3, a4]) (X ++ [a1, a2]) a3 a4 a5 a6 (by simp) (by simp) (by first | (simp; omega) | (simp only [List.length_append, List.length_cons, List.length_nil]; omega)))
  (Runs.one (o_2swap (L := X ++ [a1, a2, a5, a6, a3, a4]) (L' := X ++ [a1, a2, a3, a4, a5, a6]) (X ++ [a1, a2]) a5 a6 a3 a4 (by simp) (by simp) (by first | (simp; omega) | (simp only [List.length_append, List.length_cons, List.length_nil]; omega)))
  (.nil _ _)))
theorem turn_3 {TK : EngK → Prop} {X : List (List Int)} {a1 a2 a3 a4 a5 a6 : List Int} (hX : X.length ≤ 400) : Runs TK [113, 113, 113] (X ++ [a1, a2, a3, a4, a5, a6]) [] (X ++ [a1, a2, a3, a4, a5, a6]) [] :=
  (Runs.one (o_2rot (L := X ++ [a1, a2, a3, a4, a5, a6]) (L' := X ++ [a3, a4, a5, a6, a1, a2]) (X) a1 a2 a3 a4 a5 a6 (by simp) (by simp) (by first | (simp; omega) | (simp only [List.length_append, List.length_cons, List.length_nil]; omega)))
  (Runs.one (o_2rot (L := X ++ [a3, a4, a5, a6, a1, a2]) (L' := X ++ [a5, a6, a1, a2, a3, a4]) (X) a3 a4 a5 a6 a1 a2 (by simp) (by simp) (by first | (simp; omega) | (simp only [List.length_append, List.length_cons, List.length_nil]; omega)))
  (Runs.one (o_2rot (L := X ++ [a5, a6, a1, a2, a3, a4]) (L' := X ++ [a1, a2, a3, a4, a5, a6]) (X) a5 a6 a1 a2 a3 a4 (by simp) (by simp) (by first | (simp; omega) | (simp only [List.length_append, List.length_cons, List.length_nil]; omega)))
  (.nil _ _))))
theorem turn_4 {TK : EngK → Prop} {X : List (List Int)} {a1 a2 a3 a4 a5 a6 : List Int} (hX : X.length ≤ 400) : Runs TK [118, 117] (X ++ [a1, a2, a3, a4, a5, a6]) [] (X ++ [a1, a2, a3, a4, a5, a6]) [] :=
  (Runs.one (o_dup (L := X ++ [a1, a2, a3, a4, a5, a6]) (L' := X ++ [a1, a2, a3, a4, a5, a6, a6]) (X ++ [a1, a2, a3, a4, a5]) a6 (by simp) (by simp) (by first | (simp; omega) | (simp only [List.length_append, List.length_cons, List.length_nil]; omega)))
  (Runs.one (o_drop (L := X ++ [a1, a2, a3, a4, a5, a6, a6]) (L' := X ++ [a1, a2, a3, a4, a5, a6]) (X ++ [a1, a2, a3, a4, a5, a6]) a6 (by simp) (by simp) (by first | (simp; omega) | (simp only [List.length_append, List.length_cons, List.length_nil]; omega)))
  (.nil _ _)))
theorem turn_5 {TK : EngK → Prop} {X : List (List Int)} {a1 a2 a3 a4 a5 a6 : List Int} (hX : X.length ≤ 400) : Runs TK [120, 117] (X ++ [a1, a2, a3, a4, a5, a6]) [] (X ++ [a1, a2, a3, a4, a5, a6]) [] :=
  (Runs.one (o_over (L := X ++ [a1, a2, a3, a4, a5, a6]) (L' := X ++ [a1, a2, a3, a4, a5, a6, a5]) (X ++ [a1, a2, a3, a4]) a5 a6 (by simp) (by simp) (by first | (simp; omega) | (simp only [List.length_append, List.length_cons, List.length_nil]; omega)))
  (Runs.one (o_drop (L := X ++ [a1, a2, a3, a4, a5, a6, a5]) (L' := X ++ [a1, a2, a3, a4, a5, a6]) (X ++ [a1, a2, a3, a4, a5, a6]) a5 (by simp) (by simp) (by first | (simp; omega) | (simp only [List.length_append, List.length_cons, List.length_nil]; omega)))
  (.nil _ _)))
theorem turn_6 {TK : EngK → Prop} {X : List (List Int)} {a1 a2 a3 a4 a5 a6 : List Int} (hX : X.length ≤ 400) : Runs TK [110, 109] (X ++ [a1, a2, a3, a4, a5, a6]) [] (X ++ [a1, a2, a3, a4, a5, a6]) [] :=
  (Runs.one (o_2dup (L := X ++ [a1, a2, a3, a4, a5, a6]) (L' := X ++ [a1, a2, a3, a4, a5, a6, a5, a6]) (X ++ [a1, a2, a3, a4]) a5 a6 (by simp) (by simp) (by first | (simp; omega) | (simp only [List.length_append, List.length_cons, List.length_nil]; omega)))
  (Runs.one (o_2drop (L := X ++ [a1, a2, a3, a4, a5, a6, a5, a6]) (L' := X ++ [a1, a2, a3, a4, a5, a6]) (X ++ [a1, a2, a3, a4, a5, a6]) a5 a6 (by simp) (by simp) (by first | (simp; omega) | (simp only [List.length_append, List.length_cons, List.length_nil]; omega)))
  (.nil _ _)))
theorem turn_7 {TK : EngK → Prop} {X : List (List Int)} {a1 a2 a3 a4 a5 a6 : List Int} (hX : X.length ≤ 400) : Runs TK [112, 109] (X ++ [a1, a2, a3, a4, a5, a6]) [] (X ++ [a1, a2, a3, a4, a5, a6]) [] :=
  (Runs.one (o_2over (L := X ++ [a1, a2, a3, a4, a5, a6]) (L' := X ++ [a1, a2, a3, a4, a5, a6, a3, a4]) (X ++ [a1, a2]) a3 a4 a5 a6 (by simp) (by simp) (by first | (simp; omega) | (simp only [List.length_append, List.length_cons, List.length_nil]; omega)))
  (Runs.one (o_2drop (L := X ++ [a1, a2, a3, a4, a5, a6, a3, a4]) (L' := X ++ [a1, a2, a3, a4, a5, a6]) (X ++ [a1, a2, a3, a4, a5, a6]) a3 a4 (by simp) (by simp) (by first | (simp; omega) | (simp only [List.length_append, List.length_cons, List.length_nil]; omega)))
  (.nil _ _)))
theorem turn_8 {TK : EngK → Prop} {X : List (List Int)} {a1 a2 a3 a4 a5 a6 : List Int} (hX : X.length ≤ 400) : Runs TK [111, 109, 117] (X ++ [a1, a2, a3, a4, a5, a6]) [] (X ++ [a1, a2, a3, a4, a5, a6]) [] :=
  (Runs.one (o_3dup (L := X ++ [a1, a2, a3, a4, a5, a6]) (L' := X ++ [a1, a2, a3, a4, a5, a6, a4, a5, a6]) (X ++ [a1, a2, a3]) a4 a5 a6 (by simp) (by simp) (by first | (simp; omega) | (simp only [List.length_append, List.length_cons, List.length_nil]; omega)))
  (Runs.one (o_2drop (L := X ++ [a1, a2, a3, a4, a5, a6, a4, a5, a6]) (L' := X ++ [a1, a2, a3, a4, a5, a6, a4]) (X ++ [a1, a2, a3, a4, a5, a6, a4]) a5 a6 (by simp) (by simp) (by first | (simp; omega) | (simp only [List.length_append, List.length_cons, List.length_nil]; omega)))
  (Runs.one (o_drop (L := X ++ [a1, a2, a3, a4, a5, a6, a4]) (L' := X ++ [a1, a2, a3, a4, a5, a6]) (X ++ [a1, a2, a3, a4, a5, a6]) a4 (by simp) (by simp) (by first | (simp; omega) | (simp only [List.length_append, List.length_cons, List.length_nil]; omega)))
  (.nil _ _))))
theorem turn_9 {TK : EngK → Prop} {X : List (List Int)} {a1 a2 a3 a4 a5 a6 : List Int} (hX : X.length ≤ 400) : Runs TK [125, 117, 124] (X ++ [a1, a2, a3, a4, a5, a6]) [] (X ++ [a1, a2, a3, a4, a5, a6]) [] :=
  (Runs.one (o_tuck (L := X ++ [a1, a2, a3, a4, a5, a6]) (L' := X ++ [a1, a2, a3, a4, a6, a5, a6]) (X ++ [a1, a2, a3, a4]) a5 a6 (by simp) (by simp) (by first | (simp; omega) | (simp only [List.length_append, List.length_cons, List.length_nil]; omega)))
  (Runs.one (o_drop (L := X ++ [a1, a2, a3, a4, a6, a5, a6]) (L' := X ++ [a1, a2, a3, a4, a6, a5]) (X ++ [a1, a2, a3, a4, a6, a5]) a6 (by simp) (by simp) (by first | (simp; omega) | (simp only [List.length_append, List.length_cons, List.length_nil]; omega)))
  (Runs.one (o_swap (L := X ++ [a1, a2, a3, a4, a6, a5]) (L' := X ++ [a1, a2, a3, a4, a5, a6]) (X ++ [a1, a2, a3, a4]) a6 a5 (by simp) (by simp) (by first | (simp; omega) | (simp only [List.length_append, List.length_cons, List.length_nil]; omega)))
  (.nil _ _))))
theorem turn_10 {TK : EngK → Prop} {X : List (List Int)} {a1 a2 a3 a4 a5 a6 : List Int} (hX : X.length ≤ 400) : Runs TK [107, 108] (X ++ [a1, a2, a3, a4, a5, a6]) [] (X ++ [a1, a2, a3, a4, a5, a6]) [] :=
  (Runs.one (o_toalt (L := X ++ [a1, a2, a3, a4, a5, a6]) (X ++ [a1, a2, a3, a4, a5]) a6 (by simp) (by first | (simp; omega) | (simp only [List.length_append, List.length_cons, List.length_nil]; omega)))
  (Runs.one (o_fromalt (L' := X ++ [a1, a2, a3, a4, a5, a6]) (E := X ++ [a1, a2, a3, a4, a5]) [] a6 (by simp) (by first | (simp; omega) | (simp only [List.length_append, List.length_cons, List.length_nil]; omega)))
  (.nil _ _)))
theorem turn_11 {TK : EngK → Prop} {X : List (List Int)} {a1 a2 a3 a4 a5 a6 : List Int} (hX : X.length ≤ 400) : Runs TK [107, 107, 108, 108] (X ++ [a1, a2, a3, a4, a5, a6]) [] (X ++ [a1, a2, a3, a4, a5, a6]) [] :=
  (Runs.one (o_toalt (L := X ++ [a1, a2, a3, a4, a5, a6]) (X ++ [a1, a2, a3, a4, a5]) a6 (by simp) (by first | (simp; omega) | (simp only [List.length_append, List.length_cons, List.length_nil]; omega)))
  (Runs.one (o_toalt (L := X ++ [a1, a2, a3, a4, a5]) (X ++ [a1, a2, a3, a4]) a5 (by simp) (by first | (simp; omega) | (simp only [List.length_append, List.length_cons, List.length_nil]; omega)))
  (Runs.one (o_fromalt (L' := X ++ [a1, a2, a3, a4, a5]) (E := X ++ [a1, a2, a3, a4]) ([] ++ [a6]) a5 (by simp) (by first | (simp; omega) | (simp only [List.length_append, List.length_cons, List.length_nil]; omega)))
  (Runs.one (o_fromalt (L' := X ++ [a1, a2, a3, a4, a5, a6]) (E := X ++ [a1, a2, a3, a4, a5]) [] a6 (by simp) (by first | (simp; omega) | (simp only [List.length_append, List.length_cons, List.length_nil]; omega)))
  (.nil _ _)))))
theorem turn_12 {TK : EngK → Prop} {X : List (List Int)} {a1 a2 a3 a4 a5 a6 : List Int} (hX : X.length ≤ 400) (h6 : a6.length ≤ 520) : Runs TK [130, 117] (X ++ [a1, a2, a3, a4, a5, a6]) [] (X ++ [a1, a2, a3, a4, a5, a6]) [] :=
  (Runs.cons (o_size (L := X ++ [a1, a2, a3, a4, a5, a6]) (X ++ [a1, a2, a3, a4, a5]) a6 (by simp) h6 (by first | (simp; omega) | (simp only [List.length_append, List.length_cons, List.length_nil]; omega))) (fun E1 A1 hq => by
  obtain ⟨⟨b, rfl⟩, rfl⟩ := hq
  rw [show (X ++ [a1, a2, a3, a4, a5]) ++ [a6, b] = X ++ [a1, a2, a3, a4, a5, a6, b] by simp]
  exact (Runs.one (o_drop (L := X ++ [a1, a2, a3, a4, a5, a6, b]) (L' := X ++ [a1, a2, a3, a4, a5, a6]) (X ++ [a1, a2, a3, a4, a5, a6]) b (by simp) (by simp) (by first | (simp; omega) | (simp only [List.length_append, List.length_cons, List.length_nil]; omega)))
  (.nil _ _))))
theorem turn_13 {TK : EngK → Prop} {X : List (List Int)} {a1 a2 a3 a4 a5 a6 : List Int} (hX : X.length ≤ 400) : Runs TK [118, 119] (X ++ [a1, a2, a3, a4, a5, a6]) [] (X ++ [a1, a2, a3, a4, a5, a6]) [] :=
  (Runs.one (o_dup (L := X ++ [a1, a2, a3, a4, a5, a6]) (L' := X ++ [a1, a2, a3, a4, a5, a6, a6]) (X ++ [a1, a2, a3, a4, a5]) a6 (by simp) (by simp) (by first | (simp; omega) | (simp only [List.length_append, List.length_cons, List.length_nil]; omega)))
  (Runs.one (o_nip (L := X ++ [a1, a2, a3, a4, a5, a6, a6]) (L' := X ++ [a1, a2, a3, a4, a5, a6]) (X ++ [a1, a2, a3, a4, a5]) a6 a6 (by simp) (by simp) (by first | (simp; omega) | (simp only [List.length_append, List.length_cons, List.length_nil]; omega)))
  (.nil _ _)))
theorem turn_14 {TK : EngK → Prop} {X : List (List Int)} {a1 a2 a3 a4 a5 a6 : List Int} (hX : X.length ≤ 400) : Runs TK [82, 122, 123, 123] (X ++ [a1, a2, a3, a4, a5, a6]) [] (X ++ [a1, a2, a3, a4, a5, a6]) [] :=
  (Runs.one (o_2 (L' := X ++ [a1, a2, a3, a4, a5, a6, [2]]) (X ++ [a1, a2, a3, a4, a5, a6]) (by simp) (by first | (simp; omega) | (simp only [List.length_append, List.length_cons, List.length_nil]; omega)))
  (Runs.one (o_roll2 (L := X ++ [a1, a2, a3, a4, a5, a6, [2]]) (L' := X ++ [a1, a2, a3, a5, a6, a4]) (X ++ [a1, a2, a3]) a4 a5 a6 (by simp) (by simp) (by first | (simp; omega) | (simp only [List.length_append, List.length_cons, List.length_nil]; omega)))
  (Runs.one (o_rot (L := X ++ [a1, a2, a3, a5, a6, a4]) (L' := X ++ [a1, a2, a3, a6, a4, a5]) (X ++ [a1, a2, a3]) a5 a6 a4 (by simp) (by simp) (by first | (simp; omega) | (simp only [List.length_append, List.length_cons, List.length_nil]; omega)))
  (Runs.one (o_rot (L := X ++ [a1, a2, a3, a6, a4, a5]) (L' := X ++ [a1, a2, a3, a4, a5, a6]) (X ++ [a1, a2, a3]) a6 a4 a5 (by simp) (by simp) (by first | (simp; omega) | (simp only [List.length_append, List.length_cons, List.length_nil]; omega)))
  (.nil _ _)))))
theorem turn_15 {TK : EngK → Prop} {X : List (List Int)} {a1 a2 a3 a4 a5 a6 : List Int} (hX : X.length ≤ 400) : Runs TK [0, 121, 117] (X ++ [a1, a2, a3, a4, a5, a6]) [] (X ++ [a1, a2, a3, a4, a5, a6]) [] :=
  (Runs.one (o_false (L' := X ++ [a1, a2, a3, a4, a5, a6, []]) (X ++ [a1, a2, a3, a4, a5, a6]) (by simp) (by first | (simp; omega) | (simp only [List.length_append, List.length_cons, List.length_nil]; omega)))
  (Runs.one (o_pick0 (L := X ++ [a1, a2, a3, a4, a5, a6, []]) (L' := X ++ [a1, a2, a3, a4, a5, a6, a6]) (X ++ [a1, a2, a3, a4, a5]) a6 (by simp) (by simp) (by first | (simp; omega) | (simp only [List.length_append, List.length_cons, List.length_nil]; omega)))
  (Runs.one (o_drop (L := X ++ [a1, a2, a3, a4, a5, a6, a6]) (L' := X ++ [a1, a2, a3, a4, a5, a6]) (X ++ [a1, a2, a3, a4, a5, a6]) a6 (by simp) (by simp) (by first | (simp; omega) | (simp only [List.length_append, List.length_cons, List.length_nil]; omega)))
  (.nil _ _))))
theorem turn_16 {TK : EngK → Prop} {X : List (List Int)} {a1 a2 a3 a4 a5 a6 : List Int} (hX : X.length ≤ 400) : Runs TK [0, 122] (X ++ [a1, a2, a3, a4, a5, a6]) [] (X ++ [a1, a2, a3, a4, a5, a6]) [] :=
  (Runs.one (o_false (L' := X ++ [a1, a2, a3, a4, a5, a6, []]) (X ++ [a1, a2, a3, a4, a5, a6]) (by simp) (by first | (simp; omega) | (simp only [List.length_append, List.length_cons, List.length_nil]; omega)))
  (Runs.one (o_roll0 (L := X ++ [a1, a2, a3, a4, a5, a6, []]) (L' := X ++ [a1, a2, a3, a4, a5, a6]) (X ++ [a1, a2, a3, a4, a5]) a6 (by simp) (by simp) (by first | (simp; omega) | (simp only [List.length_append, List.length_cons, List.length_nil]; omega)))
  (.nil _ _)))
theorem turn_17 {TK : EngK → Prop} {X : List (List Int)} {a1 a2 a3 a4 a5 a6 : List Int} (hX : X.length ≤ 400) : Runs TK [81, 122, 124] (X ++ [a1, a2, a3, a4, a5, a6]) [] (X ++ [a1, a2, a3, a4, a5, a6]) [] :=
  (Runs.one (o_1 (L' := X ++ [a1, a2, a3, a4, a5, a6, [1]]) (X ++ [a1, a2, a3, a4, a5, a6]) (by simp) (by first | (simp; omega) | (simp only [List.length_append, List.length_cons, List.length_nil]; omega)))
  (Runs.one (o_roll1 (L := X ++ [a1, a2, a3, a4, a5, a6, [1]]) (L' := X ++ [a1, a2, a3, a4, a6, a5]) (X ++ [a1, a2, a3, a4]) a5 a6 (by simp) (by simp) (by first | (simp; omega) | (simp only [List.length_append, List.length_cons, List.length_nil]; omega)))
  (Runs.one (o_swap (L := X ++ [a1, a2, a3, a4, a6, a5]) (L' := X ++ [a1, a2, a3, a4, a5, a6]) (X ++ [a1, a2, a3, a4]) a6 a5 (by simp) (by simp) (by first | (simp; omega) | (simp only [List.length_append, List.length_cons, List.length_nil]; omega)))
  (.nil _ _))))
theorem turn_18 {TK : EngK → Prop} {X : List (List Int)} {a1 a2 a3 a4 a5 a6 : List Int} (hX : X.length ≤ 400) : Runs TK [85, 121, 117] (X ++ [a1, a2, a3, a4, a5, a6]) [] (X ++ [a1, a2, a3, a4, a5, a6]) [] :=
  (Runs.one (o_5 (L' := X ++ [a1, a2, a3, a4, a5, a6, [5]]) (X ++ [a1, a2, a3, a4, a5, a6]) (by simp) (by first | (simp; omega) | (simp only [List.length_append, List.length_cons, List.length_nil]; omega)))
  (Runs.one (o_pick5 (L := X ++ [a1, a2, a3, a4, a5, a6, [5]]) (L' := X ++ [a1, a2, a3, a4, a5, a6, a1]) (X) a1 a2 a3 a4 a5 a6 (by simp) (by simp) (by first | (simp; omega) | (simp only [List.length_append, List.length_cons, List.length_nil]; omega)))
  (Runs.one (o_drop (L := X ++ [a1, a2, a3, a4, a5, a6, a1]) (L' := X ++ [a1, a2, a3, a4, a5, a6]) (X ++ [a1, a2, a3, a4, a5, a6]) a1 (by simp) (by simp) (by first | (simp; omega) | (simp only [List.length_append, List.length_cons, List.length_nil]; omega)))
  (.nil _ _))))
theorem turn_19 {TK : EngK → Prop} {X : List (List Int)} {a1 a2 a3 a4 a5 a6 : List Int} (hX : X.length ≤ 400) (h6 : a6.length ≤ 520) (hsha : Sha TK) : Runs TK [118, 168, 117] (X ++ [a1, a2, a3, a4, a5, a6]) [] (X ++ [a1, a2, a3, a4, a5, a6]) [] :=
  (Runs.one (o_dup (L := X ++ [a1, a2, a3, a4, a5, a6]) (L' := X ++ [a1, a2, a3, a4, a5, a6, a6]) (X ++ [a1, a2, a3, a4, a5]) a6 (by simp) (by simp) (by first | (simp; omega) | (simp only [List.length_append, List.length_cons, List.length_nil]; omega)))
  (Runs.cons ((hsha (X ++ [a1, a2, a3, a4, a5, a6]) _ a6 (by first | (simp; omega) | (simp only [List.length_append, List.length_cons, List.length_nil]; omega)) h6).cast (by simp)) (fun E1 A1 hq => by
  obtain ⟨⟨b, rfl⟩, rfl⟩ := hq
  rw [show (X ++ [a1, a2, a3, a4, a5, a6]) ++ [b] = X ++ [a1, a2, a3, a4, a5, a6, b] by simp]
  exact (Runs.one (o_drop (L := X ++ [a1, a2, a3, a4, a5, a6, b]) (L' := X ++ [a1, a2, a3, a4, a5, a6]) (X ++ [a1, a2, a3, a4, a5, a6]) b (by simp) (by simp) (by first | (simp; omega) | (simp only [List.length_append, List.length_cons, List.length_nil]; omega)))
  (.nil _ _)))))
theorem turn_20 {TK : EngK → Prop} {X : List (List Int)} {a1 a2 a3 a4 a5 a6 : List Int} (hX : X.length ≤ 400) : Runs TK [118, 118, 136] (X ++ [a1, a2, a3, a4, a5, a6]) [] (X ++ [a1, a2, a3, a4, a5, a6]) [] :=
  (Runs.one (o_dup (L := X ++ [a1, a2, a3, a4, a5, a6]) (L' := X ++ [a1, a2, a3, a4, a5, a6, a6]) (X ++ [a1, a2, a3, a4, a5]) a6 (by simp) (by simp) (by first | (simp; omega) | (simp only [List.length_append, List.length_cons, List.length_nil]; omega)))
  (Runs.one (o_dup (L := X ++ [a1, a2, a3, a4, a5, a6, a6]) (L' := X ++ [a1, a2, a3, a4, a5, a6, a6, a6]) (X ++ [a1, a2, a3, a4, a5, a6]) a6 (by simp) (by simp) (by first | (simp; omega) | (simp only [List.length_append, List.length_cons, List.length_nil]; omega)))
  (Runs.one (o_eqverify (L := X ++ [a1, a2, a3, a4, a5, a6, a6, a6]) (X ++ [a1, a2, a3, a4, a5, a6]) a6 (by simp) (by first | (simp; omega) | (simp only [List.length_append, List.length_cons, List.length_nil]; omega)))
  (.nil _ _))))

/-- The turns, by number. -/
def turnOf : Nat → List Int
  | 0 => [124, 124]
  | 1 => [123, 123, 123]
  | 2 => [114, 114]
  | 3 => [113, 113, 113]
  | 4 => [118, 117]
  | 5 => [120, 117]
  | 6 => [110, 109]
  | 7 => [112, 109]
  | 8 => [111, 109, 117]
  | 9 => [125, 117, 124]
  | 10 => [107, 108]
  | 11 => [107, 107, 108, 108]
  | 12 => [130, 117]
  | 13 => [118, 119]
  | 14 => [82, 122, 123, 123]
  | 15 => [0, 121, 117]
  | 16 => [0, 122]
  | 17 => [81, 122, 124]
  | 18 => [85, 121, 117]
  | 19 => [118, 168, 117]
  | 20 => [118, 118, 136]
  | _ => []

theorem turn_any {TK : EngK → Prop} (hsha : Sha TK) {E : List (List Int)} (h6 : 6 ≤ E.length) (h400 : E.length ≤ 400) (hE : ∀ e ∈ E, e.length ≤ 520) (k : Nat) : Runs TK (turnOf k) E [] E [] := by
  obtain ⟨X, a1, a2, a3, a4, a5, a6, rfl⟩ : ∃ X a1 a2 a3 a4 a5 a6, E = X ++ [a1, a2, a3, a4, a5, a6] := by
    have e := (List.take_append_drop (E.length - 6) E).symm
    have hl : (E.drop (E.length - 6)).length = 6 := by simp; omega
    match hm : E.drop (E.length - 6), hl with
    | [a1, a2, a3, a4, a5, a6], _ => exact ⟨_, a1, a2, a3, a4, a5, a6, by rw [hm] at e; exact e⟩
  have hX : X.length ≤ 400 := by simp at h400; omega
  have ha : a6.length ≤ 520 := hE a6 (by simp)
  by_cases hk : k < 21
  · match k, hk with
    | 0, _ => exact turn_0 hX
    | 1, _ => exact turn_1 hX
    | 2, _ => exact turn_2 hX
    | 3, _ => exact turn_3 hX
    | 4, _ => exact turn_4 hX
    | 5, _ => exact turn_5 hX
    | 6, _ => exact turn_6 hX
    | 7, _ => exact turn_7 hX
    | 8, _ => exact turn_8 hX
    | 9, _ => exact turn_9 hX
    | 10, _ => exact turn_10 hX
    | 11, _ => exact turn_11 hX
    | 12, _ => exact turn_12 hX ha
    | 13, _ => exact turn_13 hX
    | 14, _ => exact turn_14 hX
    | 15, _ => exact turn_15 hX
    | 16, _ => exact turn_16 hX
    | 17, _ => exact turn_17 hX
    | 18, _ => exact turn_18 hX
    | 19, _ => exact turn_19 hX ha hsha
    | 20, _ => exact turn_20 hX
    | n + 21, h => exact absurd h (by omega)
  · have : turnOf k = [] := by
      unfold turnOf
      split <;> first | omega | rfl
    rw [this]
    exact .nil _ _

/-- Turns in a row. -/
theorem turns_any {TK : EngK → Prop} (hsha : Sha TK) {E : List (List Int)} (h6 : 6 ≤ E.length) (h400 : E.length ≤ 400) (hE : ∀ e ∈ E, e.length ≤ 520) : ∀ ks : List Nat, Runs TK (ks.flatMap turnOf) E [] E []
  | [] => .nil _ _
  | k :: ks => by
    rw [List.flatMap_cons]
    exact (turn_any hsha h6 h400 hE k).append (turns_any hsha h6 h400 hE ks)
end Go.Proofs.YtaohcejbjeaemaaGreatDoor

import Derived.Test.YtbnjggklinickaaGreatDoorRTok
namespace Go.Proofs.YtbnjggklinickaaGreatDoorR
open Go Go.RowKit

theorem step_goes {K : EngK} {V : EngV} {E E' : List (List Int)} {w : World} (h : Eng K V E w) (hL : K.L ≤ 100000) {v len : Int} {off' : Nat} {pos' : Int} {dp : Option Addr} {dn dk : Nat} {n' : Int}
    (hsi : V.si = 1) (hoi : 0 ≤ V.oi ∧ V.oi ≤ 100000) (hlt : off' < K.L) (hE : E'.length ≤ 1000) (hn : Nexts K V v len off' pos' (.slice dp dn dk) w) (hx : Does K V E E' n' v off' pos' dp dn dk w) :
    Calls Tryz.prog 19 #[.pointer (some ⟨K.e, 0, none⟩)] w fun e w' => e = .returned (.tuple #[.bool false, .nilIface]) ∧
      ∃ V1, Eng K V1 E' w' ∧ To K V w V1 w' ∧ V1.si = 1 ∧ V1.off = off' ∧ V1.pos = pos' ∧ V1.nops = n' ∧ V1.oi = V.oi + 1 := by
  refine (step_any h hL hsi hoi (Nat.le_of_lt hlt) hE hn hx).mono ?_
  rintro e w' (⟨_, rfl, p, s, h1, h2⟩ | ⟨h1, _⟩)
  · exact ⟨rfl, _, h1, h2, hsi, rfl, rfl, rfl, rfl⟩
  · omega

theorem step_ends {K : EngK} {V : EngV} {E E' : List (List Int)} {w : World} (h : Eng K V E w) (hL : K.L ≤ 100000) {v len : Int} {off' : Nat} {pos' : Int} {dp : Option Addr} {dn dk : Nat} {n' : Int}
    (hsi : V.si = 1) (hoi : 0 ≤ V.oi ∧ V.oi ≤ 100000) (hlt : off' = K.L) (hE : E'.length ≤ 1000) (hn : Nexts K V v len off' pos' (.slice dp dn dk) w) (hx : Does K V E E' n' v off' pos' dp dn dk w) :
    Calls Tryz.prog 19 #[.pointer (some ⟨K.e, 0, none⟩)] w fun e w' => e = .returned (.tuple #[.bool true, .nilIface]) ∧
      ∃ V1, Eng K V1 E' w' ∧ To K V w V1 w' ∧ V1.si = 2 := by
  refine (step_any h hL hsi hoi (Nat.le_of_eq hlt) hE hn hx).mono ?_
  rintro e w' (⟨h1, _⟩ | ⟨_, rfl, p, s, h1, h2⟩)
  · omega
  · exact ⟨rfl, _, h1, h2, rfl⟩

theorem data_elem {K : EngK} {V : EngV} {E : List (List Int)} {w : World} {sc bs : List Int} {ver sq rules : Int} (h : Eng K V E w) (ho : EngineOf K sc ver sq rules) (off : Nat) (hpos : 0 < bs.length) (hle : off + bs.length + 1 ≤ sc.length)
    (hb : ∀ i, i < bs.length → sc[off + 1 + i]? = some (bs.getD i 0)) (hr : ∀ m ∈ bs, 0 ≤ m ∧ m ≤ 255) : Elem (Live K V w) w (.slice (some ⟨K.sb, K.so + off + 1, none⟩) bs.length (K.cap - off - 1)) bs := by
  have hc := ho.cap
  rw [ho.len] at hc
  refine ⟨_, _, rfl, by omega, by omega, by simp, hr, fun _ => ⟨_, _, rfl, (h.mem _ _ (ho.bytes 0 (by omega))).1, fun i hi => ?_⟩⟩
  have := h.byte ho (hb i hi)
  have e : K.so + off + 1 + i = K.so + (off + 1 + i) := by omega
  rw [e]; exact this

/-- The push, whatever it is. -/
theorem push_step {K : EngK} {w : World} {pre bs : List Int} {ver sq rules : Int} (h : Eng K V0 [] w) (hp : Pushes pre bs) (hr : ∀ m ∈ bs, 0 ≤ m ∧ m ≤ 255) (ho : EngineOf K (pre ++ [178, 117, 81]) ver sq rules) :
    Calls Tryz.prog 19 #[.pointer (some ⟨K.e, 0, none⟩)] w fun e w' => e = .returned (.tuple #[.bool false, .nilIface]) ∧
      ∃ V1, Eng K V1 [bs] w' ∧ To K V0 w V1 w' ∧ V1.si = 1 ∧ V1.off = pre.length ∧ V1.pos = 0 ∧ V1.nops = 0 ∧ V1.oi = 1 := by
  have hlen := ho.len
  have hV : V0.off = 0 := rfl
  have data : ∀ (v : Int) (hv : 0 ≤ v ∧ v ≤ 96) (f : RunAs v 76) (n : Nat), n = bs.length → 1 ≤ n → n ≤ 75 → pre = v :: bs → (∀ w, Calls Tryz.prog 53 #[.int .u8 v] w (OpMade v ((n + 1 : Nat) : Int) w)) →
      Calls Tryz.prog 19 #[.pointer (some ⟨K.e, 0, none⟩)] w fun e w' => e = .returned (.tuple #[.bool false, .nilIface]) ∧
      ∃ V1, Eng K V1 [bs] w' ∧ To K V0 w V1 w' ∧ V1.si = 1 ∧ V1.off = pre.length ∧ V1.pos = 0 ∧ V1.nops = 0 ∧ V1.oi = 1 := by
    intro v hv f n hn h1 h75 hpre hop
    subst hn
    have hl : (pre ++ [178, 117, 81]).length = bs.length + 4 := by rw [hpre]; simp
    have hN := nexts_data (V := V0) h ho (by omega) ⟨by decide, by decide⟩ bs.length h1 h75 (by show 0 + bs.length + 1 ≤ _; omega) (by rw [hpre]; rfl) hop
    have hD : Does K V0 [] ([] ++ [bs]) V0.nops v (0 + (bs.length + 1)) (V0.pos + 1) (some ⟨K.sb, K.so + 0 + 1, none⟩) bs.length (K.cap - 0 - 1) w :=
      does_lo f hv.1 hv.2 (by omega) (fun p w1 V1 hE _ _ => pushData_any hE (by simp) _ (data_elem hE ho 0 (by omega) (by omega) (fun i hi => by
        rw [hpre]
        have : 0 + 1 + i = i + 1 := by omega
        rw [this, List.cons_append, List.getElem?_cons_succ, List.getElem?_append_left hi]
        simp [List.getD, hi]) hr))
    refine (step_goes (E' := [] ++ [bs]) h (by rw [hlen]; omega) rfl ⟨by decide, by decide⟩ (by rw [hlen]; omega) (by simp) hN hD).mono ?_
    rintro e w' ⟨rfl, V1, g1, g2, g3, g4, g5, g6, g7⟩
    exact ⟨rfl, V1, g1, g2, g3, by rw [g4, hpre, hV]; simp, g5, g6, g7⟩
  cases hp with
  | zero =>
    have hN := nexts_one (V := V0) h ho (by simp) ⟨by decide, by decide⟩ (v := 0) rfl of_0
    have hD : Does K V0 [] ([] ++ [[]]) V0.nops 0 (0 + 1) (V0.pos + 1) none 0 0 w :=
      does_lo (fun h0 hR hr => run_0 h0 hR hr) (by decide) (by decide) (by decide) (fun p w1 V1 hE _ _ => false_any hE (by simp) _ _)
    refine (step_goes (E' := [] ++ [[]]) h (by rw [hlen]; simp) rfl ⟨by decide, by decide⟩ (by rw [hlen, hV]; simp) (by simp) hN hD).mono ?_
    rintro e w' ⟨rfl, V1, g1, g2, g3, g4, g5, g6, g7⟩
    exact ⟨rfl, V1, g1, g2, g3, g4, g5, g6, g7⟩
  | small n h1 h2 =>
    have hN := nexts_one (V := V0) h ho (by simp) ⟨by decide, by decide⟩ (v := 80 + (n : Int)) rfl (of_small n h1 h2)
    have hD : Does K V0 [] ([] ++ [[(n : Int)]]) V0.nops (80 + (n : Int)) (0 + 1) (V0.pos + 1) none 0 0 w :=
      does_lo (run_small n h1 h2) (by omega) (by omega) (by decide) (fun p w1 V1 hE _ hc => opcodeN_any hE (by simp) p _ n h1 h2 _ rfl hc)
    refine (step_goes (E' := [] ++ [[(n : Int)]]) h (by rw [hlen]; simp) rfl ⟨by decide, by decide⟩ (by rw [hlen, hV]; simp) (by simp) hN hD).mono ?_
    rintro e w' ⟨rfl, V1, g1, g2, g3, g4, g5, g6, g7⟩
    exact ⟨rfl, V1, g1, g2, g3, g4, g5, g6, g7⟩
  | one b0 => exact data 1 (by decide) (fun h0 hR hr => run_1 h0 hR hr) 1 rfl (by decide) (by decide) rfl of_1
  | two b0 b1 => exact data 2 (by decide) (fun h0 hR hr => run_2 h0 hR hr) 2 rfl (by decide) (by decide) rfl of_2
  | three b0 b1 b2 => exact data 3 (by decide) (fun h0 hR hr => run_3 h0 hR hr) 3 rfl (by decide) (by decide) rfl of_3
#print axioms push_step

theorem script_all {pre bs : List Int} (hp : Pushes pre bs) : Script (pre ++ [178, 117, 81]) 0 := by
  have rest : ∀ (pre : List Int), Script (pre ++ [178, 117, 81]) pre.length := fun pre =>
    have a0 : ∀ k, (pre ++ [178, 117, 81])[pre.length + k]? = ([178, 117, 81] : List Int)[k]? := fun k => by rw [List.getElem?_append_right (by omega)]; simp
    .one 178 (a0 0) of_178 (.one 117 (a0 1) of_117 (.one 81 (a0 2) of_81 (by have := @Script.done (pre ++ [178, 117, 81]); simpa using this)))
  cases hp with
  | zero => exact .one 0 rfl of_0 (rest [0])
  | small n h1 h2 => exact .one (80 + (n : Int)) rfl (of_small n h1 h2) (rest [80 + (n : Int)])
  | one b0 => exact .data 1 1 rfl (by decide) (by decide) (by simp) of_1 (rest [1, b0])
  | two b0 b1 => exact .data 2 2 rfl (by decide) (by decide) (by simp) of_2 (rest [2, b0, b1])
  | three b0 b1 b2 => exact .data 3 3 rfl (by decide) (by decide) (by simp) of_3 (rest [3, b0, b1, b2])
#print axioms script_all
end Go.Proofs.YtbnjggklinickaaGreatDoorR

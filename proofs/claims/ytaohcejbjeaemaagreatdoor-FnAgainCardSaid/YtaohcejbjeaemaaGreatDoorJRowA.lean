/-
  laws.FnAgain PROVED: for every stack of byte strings and every list of choices the law returns true and leaves its arguments as they were: turns of the stack that undo each other leave it as it was.
  Conditions: the row's own: errors.errorType and bytes.ErrTooLarge read as the program's text lays them (the walk reads neither).
-/
import Derived.Test.YtaohcejbjeaemaaGreatDoorJLawBTab
import Derived.Test.YtaohcejbjeaemaaGreatDoorJGact
import Derived.Test.YtaohcejbjeaemaaGreatDoorRows
import Derived.ProofKit
import Derived.LaidMore
import Derived.LaidLaws
import Derived.LaidHandle
import Derived.OpenShut
import Derived.Stop.Joined
import Derived.Handed
import Derived.Carry
import Derived.Deep.Matrix
namespace Go.Proofs.YtaohcejbjeaemaaGreatDoor
open Go Go.ChangeShapes Go.WideShapes Go.ChangeAt Go.RowKit Go.Deep

theorem own_knob : ownKnob Tryz.prog.godebug = none := by kernel_rfl
theorem laid_out : laidOutB Tryz.prog = true := by kernel_rfl

abbrev laidTwo : List (String × DataW Unit) := [("errors.errorType", Rows.laid_errors_errorType), ("bytes.ErrTooLarge", Rows.laid_bytes_ErrTooLarge)]

/-- The door's own heap meets the condition. -/
theorem door_met (os : Os) (args : Array Value) : laidMetH Tryz.prog laidTwo ((World.doorLaid Tryz.prog 60 os).forCall (fun _ _ => 0) ⟨#[], args, []⟩).memory :=
  laidMetH_of_parts3 (fuel := 8) (laidMet_of_run' 8 (by kernel_rfl) (by kernel_rfl)) (by kernel_rfl) (by kernel_rfl)

/-- The plain wrap with a condition of one's own, the world's shape kept for the contract. -/
theorem handed_and_shaped {H : Type} {enc : TypeId × Value → H} {a : Assume} {C : Checked} {os : Os} {f : FuncId} {fn : Func} {s : ChangeSpec} {conds : List PathCond} {apart fresh handsOn again : Bool} {X : World → Array Value → Prop}
    (_hX : ∀ (w w' : World) (args : Array Value), w.heap = w'.heap → X w args → X w' args)
    (own : ownKnob C.prog.godebug = none) (started : os.Started) (noInit : C.prog.inits.idxOf? f = none) (hfn : C.prog.funcs[f]? = some fn)
    (witness : ∃ (w : World) (tape : Tape) (i : Input), w.os = os ∧ (w.forCall tape i).Shaped C.prog ∧ i.vars = [] ∧ Input.okWide C.prog (w.forCall tape i) .any w.heap.size f i ∧
      ((s.pre enc C.prog fn conds apart (w.forCall tape i).memory i.args ∧ X (w.forCall tape i).memory i.args) ∧ sizedMet enc C.prog fn (OpenSpec.ofChange s) apart (w.forCall tape i).memory i.args) ∧ a.holds C.prog (lone (Frame.enter C.prog f i.args .normal) [] (w.forCall tape i)))
    (contract : ∀ (W : World) (base : Nat) (args : Array Value) (ds gs : List (DataW H)) (before : List MemPlace),
      (∀ (j : Nat) t v, fn.params[j]? = some t → args[j]? = some v → Value.okWide C.prog W .any base t v) →
      DataW.Whole enc C.prog fn.params.toList s.vars apart W args.toList ds gs before → W.ShapedOpen C.prog →
      Calls C.prog f args W fun e W' => ∃ v, e = .returned v ∧ s.post enc C.prog fn apart fresh handsOn again W args v W') :
    ReturnsInHanded a C os f .any (fun w args => (s.pre enc C.prog fn conds apart w args ∧ X w args) ∧ sizedMet enc C.prog fn (OpenSpec.ofChange s) apart w args) (s.post enc C.prog fn apart fresh handsOn again) := by
  refine returnsInHanded_of_calls own started noInit witness ?_
  intro w tape i _ hsh _ hok hpre hholds
  obtain ⟨_, _, _, fn', hfn', _, _, _, _, hval⟩ := hok
  have e : fn' = fn := Option.some.inj (hfn'.symm.trans hfn)
  subst e
  obtain ⟨⟨⟨ds, gs, before, hw, hc⟩, hx⟩, hz⟩ := hpre
  have hw' := DataW.Whole.of_heap (w' := w.forCall tape i) (by rfl) hw
  refine (contract (w.forCall tape i) w.heap.size i.args ds gs before hval hw' hsh).mono fun e W' ⟨v, he, hp⟩ => ?_
  subst he
  exact ChangeSpec.post_blind hp

theorem byte_bounds {zs : List Int} (h : ∀ n ∈ zs, (Lit.int .u8 n).wf = true) (L : Nat) : ∀ m ∈ zs.take L, 0 ≤ m ∧ m ≤ 255 := fun m hm => bounds_u8 (h m (List.mem_of_mem_take hm))

/-- The rows that were opened, as a stack. -/
theorem stack_of_rows {W : World} {b o len : Nat} {A : Nat → Option Addr} {L C : Nat → Nat} {Z : Nat → List Int}
    (h : ∀ r, r < len → W.cell? (Addr.add ⟨b, o, none⟩ r) = some (.slice (A r) (L r) (C r)) ∧ L r ≤ C r ∧ C r ≤ maxLen ∧ (Z r).length = C r ∧ (∀ n ∈ Z r, (Lit.int .u8 n).wf = true) ∧ (A r = none → C r = 0) ∧
        ∀ a', A r = some a' → 0 ≤ a'.block ∧ ∀ c, c < C r → W.cell? (a'.add c) = some (.int .u8 ((Z r).getD c 0))) :
    StackAt W b o ((List.range len).map fun r => (Z r).take (L r)) := by
  intro i e he
  have hi : i < len := by have := (List.getElem?_eq_some_iff.1 he).1; simpa using this
  rw [List.getElem?_map, List.getElem?_range hi] at he
  obtain rfl := Option.some.inj he
  obtain ⟨h1, h2, h3, h4, h5, h6, h7⟩ := h i hi
  have hl : ((Z i).take (L i)).length = L i := by rw [List.length_take]; omega
  rw [Addr.add_lit] at h1
  refine ⟨A i, L i, C i, h1, A i, C i, by rw [hl], by rw [hl]; exact h2, h3, h6, byte_bounds h5 _, fun h0 => ?_⟩
  rw [hl] at h0 ⊢
  cases hA : A i with
  | none => have := h6 hA; omega
  | some a' =>
    obtain ⟨_, hc⟩ := h7 a' hA
    obtain ⟨g, f, sp⟩ := a'
    have hsp : sp = none := by simpa [Addr.add] using World.cell?_spot (hc 0 (by omega))
    subst hsp
    have hc' : ∀ c, c < C i → W.cell? ⟨g, f + c, none⟩ = some (.int .u8 ((Z i).getD c 0)) := fun c hlt => by rw [← Addr.add_lit]; exact hc c hlt
    refine ⟨g, f, rfl, World.block_lt_of_cell? _ _ (hc' 0 (by omega)), fun j hj => ?_⟩
    rw [hc' j (by omega)]
    simp [List.getD, hj]

set_option maxRecDepth 100000 in
theorem lifted (os : Os) (started : os.Started) (H : Type) (enc : TypeId × Value → H) :
    ReturnsInHanded {} Tryz.checked os 3 .any (fun w args => (Rows.fnAgainSpec.pre enc Tryz.prog Tryz.f3 [] false w args ∧ laidMetH Tryz.prog laidTwo w) ∧ sizedMet enc Tryz.prog Tryz.f3 (OpenSpec.ofChange Rows.fnAgainSpec) false w args)
      (Rows.fnAgainSpec.post enc Tryz.prog Tryz.f3 false true false false) := by
  refine handed_and_shaped (C := Tryz.checked) (X := fun w _ => laidMetH Tryz.prog laidTwo w) (fun _ _ _ hh h => h.of_heap hh) own_knob started (by kernel_rfl) Tryz.func3
    (ChangeSpec.witness_shaped (enc := enc) (C := Tryz.checked) (os := os) (X := fun w _ => laidMetH Tryz.prog laidTwo w) false (World.doorLaid Tryz.prog 60 os) #[.slice none 0 0, .slice none 0 0] 8 rfl (World.shaped_of_RefB (by kernel_rfl) (by kernel_rfl)) (by kernel_rfl) (by kernel_rfl) (by kernel_rfl) (door_met os _)) ?_
  intro W base args ds gs before hval0 hW hsh
  have hval : ∀ (j : Nat) t v, Tryz.f3.params[j]? = some t → args[j]? = some v → Value.okWide Tryz.prog W .any base t v := hval0
  have hW' := hW
  obtain ⟨p, q, hA0, hV, rfl, _, _⟩ := hW
  have hA : DataW.TrodAll enc Tryz.prog W 0 (fun _ => true) true Tryz.f3.params.toList args.toList ds p := hA0
  rw [Tryz.params3] at hA hval
  obtain ⟨v0, vs0, d0, ds0, p0, q0, hargs, rfl, rfl, h0, r0⟩ := trodAll_cons hA
  obtain ⟨v1, vs1, d1, ds1, p1, q1, rfl, rfl, rfl, h1, r1⟩ := trodAll_cons r0
  obtain ⟨rfl, rfl, rfl⟩ := trodAll_nil r1
  obtain rfl : args = #[v0, v1] := by cases args; simp_all
  obtain ⟨rfl, rfl⟩ := trodVars_none hV
  obtain ⟨a0, n, k, rfl⟩ := okWide_slice Tryz.underlying22 (hval 0 22 v0 rfl rfl)
  obtain ⟨a1, m, c, rfl⟩ := okWide_slice Tryz.underlying23 (hval 1 23 v1 rfl rfl)
  clear hA0 hval0 hval
  simp only [List.append_nil] at hW'
  have hlt0 : ∀ x ∈ p0, x.block < W.heap.size := fun x hx => hW'.lt x (by simp [hx])
  have hlt1 : ∀ x ∈ p1, x.block < W.heap.size := fun x hx => hW'.lt x (by simp [hx])
  have h0k := h0
  have h1k := h1
  have walk : Calls Tryz.prog 3 #[.slice a0 n k, .slice a1 m c] W fun e W' => e = .returned (.bool true) ∧ Below W.heap.size W W' := by
    have ht := table_of_shape hsh
    have hq : m ≤ maxLen ∧ (0 < m → ∃ g f, a1 = some ⟨g, f, none⟩ ∧ ∀ i, i < m → ∃ y, W.cell? ⟨g, f + i, none⟩ = some (.int .i64 y)) := by
      obtain ⟨f1, hf1⟩ := h1
      rcases open_ints Tryz.underlying23 Tryz.underlying3 (by kernel_rfl) hf1 with ⟨hcs, _⟩ | ⟨a, len, cap, zs, hcs, _, hl, hm, hz, _, hcell, _⟩
      · simp [Value.cells] at hcs
        obtain ⟨rfl, rfl, rfl⟩ := hcs
        exact ⟨Nat.zero_le _, fun h => absurd h (Nat.lt_irrefl _)⟩
      · simp [Value.cells] at hcs
        obtain ⟨rfl, rfl, rfl⟩ := hcs
        simp only [if_true] at hz
        refine ⟨Nat.le_trans hl hm, fun h => ?_⟩
        obtain ⟨g, f, sp⟩ := a
        have hsp : sp = none := by simpa [Addr.add] using World.cell?_spot (hcell 0 (by omega))
        subst hsp
        exact ⟨g, f, rfl, fun i hi => ⟨_, by rw [← Addr.add_lit]; exact hcell i (by omega)⟩⟩
    obtain ⟨f0, hf0⟩ := h0
    rcases open_int_rows Tryz.underlying22 Tryz.underlying25 Tryz.underlying5 (by kernel_rfl) (by kernel_rfl) hf0 with ⟨hcs, _⟩ | ⟨a, len, cap, A, L, C, Z, hcs, _, hl, hm, _, hrows⟩
    · simp [Value.cells] at hcs
      obtain ⟨rfl, rfl, rfl⟩ := hcs
      exact law_few (E := []) (.inl rfl) (by decide) hq.1
    · simp [Value.cells] at hcs
      obtain ⟨rfl, rfl, rfl⟩ := hcs
      by_cases hn0 : n = 0
      · subst hn0
        exact law_few (E := []) (.inl rfl) (by decide) hq.1
      · obtain ⟨b, o, sp⟩ := a
        have hsp : sp = none := by simpa [Addr.add] using World.cell?_spot (hrows 0 (by omega)).1
        subst hsp
        exact law_any ht (stack_of_rows (len := n) fun r hr => hrows r (by omega)) (by simp) (Nat.le_trans hl hm) hq.1 hq.2
  refine walk.mono fun e W' ⟨he, hg⟩ => ?_
  subst he
  refine ⟨_, rfl, _, _, _, [], p0 ++ (p1 ++ []), [], hW', ?_, ?_, ?_, hg.frame _, fun h => by cases h⟩
  · exact trodAll_cons_mk (shut_bool Tryz.underlying4 _) trodAll_mk0
  · exact trodAll_cons_mk (Below.trod laid_out (by kernel_rfl) (of_decide_eq_true (by kernel_rfl)) h0k hg hlt0) (trodAll_cons_mk (Below.trod laid_out (by kernel_rfl) (of_decide_eq_true (by kernel_rfl)) h1k hg hlt1) trodAll_mk0)
  · rfl

theorem named_law : Tryz.prog.funcNamed "pub-mintmark/laws.FnAgain" = some 3 := by kernel_rfl

theorem row_holds : Rows.FnAgainSaid :=
  OpenClaim.holds_of_wide 3 Tryz.f3 rfl rfl rfl rfl rfl rfl rfl ⟨rfl, rfl, rfl, rfl, rfl⟩ rfl rfl rfl rfl rfl named_law Tryz.func3 facts_all
    (of_decide_eq_true (by kernel_rfl)) (by unfold Func.isWrapper; first | (rw [if_pos (by decide +kernel)]; kernel_rfl) | (rw [if_neg (by decide +kernel)]; exact ⟨rfl, rfl⟩))
    (fun os started H enc _ => lifted os started H enc)
end Go.Proofs.YtaohcejbjeaemaaGreatDoor

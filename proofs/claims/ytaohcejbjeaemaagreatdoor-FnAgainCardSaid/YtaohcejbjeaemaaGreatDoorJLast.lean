import Derived.Test.YtaohcejbjeaemaaGreatDoorJOutPCopies
namespace Go.Proofs.YtaohcejbjeaemaaGreatDoor
open Go Go.RowKit

/-- What follows a region's last operation, as the way out of what stands before it. -/
def lastQ (P : Program) (last : Oper) (Q : Exit → Act → World → Prop) : Exit → Act → World → Prop
  | .normal, a, w => last.wp P a w (Q .normal) Q
  | e, a, w => Q e a w

theorem upon_lastQ {P : Program} {last o : Oper} {Q : Exit → Act → World → Prop} {K K' : Act → World → Prop} {a : Act} (hK : ∀ a w, K a w → K' a w) {r : Result Next} (h : o.upon P a K (lastQ P last Q) r) : o.upon P a K' Q r := by
  cases r with
  | ok n w =>
    cases n with
    | enter f args =>
      refine Calls.mono h fun e w' he => ?_
      cases e with
      | returned v => exact hK _ _ he
      | panicked c => exact he
      | outgrown => exact he
    | row x args => exact Rows.mono h fun v w' he => hK _ _ he
    | value v => exact hK _ _ h
    | skip => exact hK _ _ h
    | defer d => exact hK _ _ h
    | _ => exact h
  | halt x w =>
    cases x <;> exact h

/-- A region whose last operation waits for all others: what stands before it, in whatever order; then the last one. -/
theorem wpAny_last {P : Program} {md : Region.Mode} {ops : Array Oper} {last : Oper} {Q : Exit → Act → World → Prop}
    (hg : ∀ o ∈ ops.toList, o.guard = none) (hgl : last.guard = none)
    (hac : ∀ i o, ops[i]? = some o → ∀ e ∈ o.after, Region.binds md e = true → e.on < i)
    (hall : ∀ j, j < ops.size → (∃ e ∈ last.after, Region.binds md e = true ∧ e.on = j) ∨ ∃ i o, j < i ∧ ops[i]? = some o ∧ ∃ e ∈ o.after, Region.binds md e = true ∧ e.on = j) (hlt : ∀ e ∈ last.after, Region.binds md e = true → e.on < ops.size) :
    ∀ (fuel : Nat) (listed : Array Bool) (a : Act) (w : World), listed.size = ops.size → (∀ i o, ops[i]? = some o → listed.getD i false = true → ∀ e ∈ o.after, Region.binds md e = true → listed.getD e.on false = true) → wpAny P md ops (lastQ P last Q) fuel listed a w → wpAny P md (ops.push last) Q (fuel + 1) (listed.push false) a w := by
  have hw : ∀ (o : Oper) y, o.guard = none → Region.wanted o y = true := fun o y h => by simp [Region.wanted, h]
  have hget : ∀ (listed : Array Bool) k, (listed.push false).getD k false = listed.getD k false := by
    intro listed k
    simp only [Array.getD_eq_getD_getElem?, Array.getElem?_push]
    split
    · rename_i h; subst h; simp
    · rfl
  -- who may come up
  have hready : ∀ (listed : Array Bool), listed.size = ops.size → (∀ i o, ops[i]? = some o → listed.getD i false = true → ∀ e ∈ o.after, Region.binds md e = true → listed.getD e.on false = true) → ∀ i, i ∈ Region.ready md (ops.push last) (listed.push false) ↔ (i ∈ Region.ready md ops listed ∨ (i = ops.size ∧ ∀ j, j < ops.size → listed.getD j false = true)) := by
    intro listed hsz hdc i
    rw [mem_ready, mem_ready]
    constructor
    · rintro ⟨h0, o, ho, hall'⟩
      rw [Array.getElem?_push] at ho
      split at ho
      · rename_i hi
        obtain rfl := Option.some.inj ho
        have key : ∀ d j, ops.size - j ≤ d → j < ops.size → listed.getD j false = true := by
          intro d
          induction d with
          | zero => intro j h1 h2; omega
          | succ d ih =>
            intro j h1 hj
            rcases hall j hj with ⟨e, he, hb, rfl⟩ | ⟨i', o', hji, ho', e, he, hb, rfl⟩
            · rw [← hget]; exact hall' e he hb
            · have hlt := (Array.getElem?_eq_some_iff.1 ho').1
              exact hdc i' o' ho' (ih i' (by omega) hlt) e he hb
        exact .inr ⟨hi, fun j hj => key _ j (Nat.le_refl _) hj⟩
      · rename_i hi
        refine .inl ⟨?_, o, ho, fun e he hb => by rw [← hget]; exact hall' e he hb⟩
        have hlt := (Array.getElem?_eq_some_iff.1 ho).1
        simp only [Array.getD_eq_getD_getElem?, Array.getElem?_push] at h0 ⊢
        rw [if_neg (by omega)] at h0
        exact h0
    · rintro (⟨h0, o, ho, hall'⟩ | ⟨rfl, hj⟩)
      · have hlt := (Array.getElem?_eq_some_iff.1 ho).1
        refine ⟨?_, o, ?_, fun e he hb => by rw [hget]; exact hall' e he hb⟩
        · simp only [Array.getD_eq_getD_getElem?, Array.getElem?_push] at h0 ⊢
          rw [if_neg (by omega)]; exact h0
        · rw [Array.getElem?_push, if_neg (by omega)]; exact ho
      · refine ⟨?_, last, by simp, fun e he hb => by rw [hget]; exact hj _ (hlt e he hb)⟩
        simp only [Array.getD_eq_getD_getElem?, Array.getElem?_push]
        rw [if_pos hsz.symm]; rfl
  -- none may come up: all have
  have hdone : ∀ (listed : Array Bool), listed.size = ops.size → Region.ready md ops listed = [] → ∀ j, j < ops.size → listed.getD j false = true := by
    intro listed hsz h j
    induction j using Nat.strongRecOn with
    | ind j ih =>
      intro hj
      cases hd : listed.getD j false with
      | true => rfl
      | false =>
        have : j ∈ Region.ready md ops listed := by
          rw [mem_ready]
          have hjl : j < listed.size := by omega
          refine ⟨?_, ops[j], by simp [hj], fun e he hb => ?_⟩
          · simpa [Array.getD, hjl] using hd
          · have := hac j _ (by simp [hj]) e he hb
            exact ih _ this (by omega)
        rw [h] at this
        cases this
  intro fuel
  induction fuel with
  | zero =>
    intro listed a w hsz hdc h
    refine ⟨fun h0 => ?_, fun i hi => ?_⟩
    · have : ops.size ∈ Region.ready md (ops.push last) (listed.push false) := (hready listed hsz hdc _).2 (.inr ⟨rfl, hdone listed hsz h.1⟩)
      rw [h0] at this; cases this
    · rcases (hready listed hsz hdc i).1 hi with hr | ⟨rfl, _⟩
      · rw [h.1] at hr; cases hr
      · unfold wpOp
        simp only [Array.getElem?_push_size, hw last _ hgl, if_true]
        refine .inl (Oper.wp_mono (fun a' w' hq => ⟨?_, hq⟩) h.2)
        apply List.eq_nil_iff_forall_not_mem.2
        intro j hj
        rw [mem_ready] at hj
        obtain ⟨h0, o, ho, _⟩ := hj
        have hlt := (Array.getElem?_eq_some_iff.1 ho).1
        simp only [Array.size_push] at hlt
        rcases Nat.lt_or_ge j ops.size with hj' | hj'
        · have := hdone listed hsz h.1 j hj'
          have hjl : j < listed.size := by omega
          rw [getD_set_ne true (by omega)] at h0
          simp only [Array.getD_eq_getD_getElem?, Array.getElem?_push] at h0 this
          rw [if_neg (by omega)] at h0
          simp [hjl] at h0 this
          rw [this] at h0; cases h0
        · obtain rfl : j = ops.size := by omega
          simp [← hsz] at h0
  | succ fuel ih =>
    intro listed a w hsz hdc h
    refine ⟨fun h0 => ?_, fun i hi => ?_⟩
    · have h1 : Region.ready md ops listed = [] := by
        apply List.eq_nil_iff_forall_not_mem.2
        intro i hi
        have := (hready listed hsz hdc i).2 (.inl hi)
        rw [h0] at this; cases this
      have : ops.size ∈ Region.ready md (ops.push last) (listed.push false) := (hready listed hsz hdc _).2 (.inr ⟨rfl, hdone listed hsz h1⟩)
      rw [h0] at this; cases this
    · rcases (hready listed hsz hdc i).1 hi with hr | ⟨rfl, hjs⟩
      · have hi' : ∃ o, ops[i]? = some o := by rw [mem_ready] at hr; obtain ⟨_, o, ho, _⟩ := hr; exact ⟨o, ho⟩
        obtain ⟨o, ho⟩ := hi'
        have hlt := (Array.getElem?_eq_some_iff.1 ho).1
        have hgo : o.guard = none := hg o (Array.mem_toList_iff.2 (Array.mem_of_getElem? ho))
        have h2 := h.2 i hr
        unfold wpOp at h2 ⊢
        have ho' : (ops.push last)[i]? = some o := by rw [Array.getElem?_push, if_neg (by omega)]; exact ho
        simp only [ho, hw o _ hgo, if_true] at h2
        simp only [ho', hw o _ hgo, if_true]
        rcases h2 with h2 | ⟨h2, h3⟩
        · refine .inl (upon_lastQ (fun a' w' hk => ?_) h2)
          have hdc' : ∀ k ok, ops[k]? = some ok → (listed.setIfInBounds i true).getD k false = true → ∀ e ∈ ok.after, Region.binds md e = true → (listed.setIfInBounds i true).getD e.on false = true := by
            intro k ok hk' hlk e he hb
            by_cases hik : i = k
            · subst hik
              rw [ho] at hk'
              obtain rfl := Option.some.inj hk'
              rw [mem_ready] at hr
              obtain ⟨_, o2, ho2, hal⟩ := hr
              rw [ho] at ho2
              obtain rfl := Option.some.inj ho2
              exact getD_set_true (hal e he hb)
            · rw [getD_set_ne false hik] at hlk
              exact getD_set_true (hdc k ok hk' hlk e he hb)
          have := ih (listed.setIfInBounds i true) a' w' (by simpa using hsz) hdc' hk
          have e : (listed.push false).setIfInBounds i true = (listed.setIfInBounds i true).push false := by
            apply Array.ext_getElem?
            intro k
            simp only [Array.getElem?_setIfInBounds, Array.getElem?_push, Array.size_push, Array.size_setIfInBounds]
            have : i < listed.size := by omega
            by_cases hik : i = k
            · subst hik
              have h1 : i < listed.size + 1 := by omega
              have h2 : ¬ i = listed.size := by omega
              simp [this, h1, h2]
            · simp [hik]
          rw [e]; exact this
        · exact .inr ⟨h2, h3⟩
      · have h1 : Region.ready md ops listed = [] := by
          apply List.eq_nil_iff_forall_not_mem.2
          intro i hi
          rw [mem_ready] at hi
          obtain ⟨h0, o, ho, _⟩ := hi
          have hlt := (Array.getElem?_eq_some_iff.1 ho).1
          have := hjs i hlt
          have hil : i < listed.size := by omega
          simp [Array.getD, hil] at h0 this
          rw [this] at h0; cases h0
        unfold wpOp
        simp only [Array.getElem?_push_size, hw last _ hgl, if_true]
        refine .inl (Oper.wp_mono (fun a' w' hq => ?_) (h.1 h1))
        have hr0 : Region.ready md (ops.push last) ((listed.push false).setIfInBounds ops.size true) = [] := by
          apply List.eq_nil_iff_forall_not_mem.2
          intro j hj
          rw [mem_ready] at hj
          obtain ⟨h0, o, ho, _⟩ := hj
          have hlt := (Array.getElem?_eq_some_iff.1 ho).1
          simp only [Array.size_push] at hlt
          rcases Nat.lt_or_ge j ops.size with hj' | hj'
          · have := hjs j hj'
            have hjl : j < listed.size := by omega
            rw [getD_set_ne true (by omega)] at h0
            simp only [Array.getD_eq_getD_getElem?, Array.getElem?_push] at h0 this
            rw [if_neg (by omega)] at h0
            simp [hjl] at h0 this
            rw [this] at h0; cases h0
          · obtain rfl : j = ops.size := by omega
            simp [← hsz] at h0
        exact ⟨fun _ => hq, by rw [hr0]; simp⟩

/-- The side conditions, as the kernel reckons them. -/
def lastOk (md : Region.Mode) (ops : List Oper) (last : Oper) : Bool :=
  ops.all (fun o => o.guard.isNone) && last.guard.isNone &&
  (List.range ops.length).all (fun i => (ops[i]?).all fun o => o.after.all fun e => !Region.binds md e || decide (e.on < i)) &&
  (List.range ops.length).all (fun j => (last.after.any fun e => Region.binds md e && e.on == j) || (List.range ops.length).any fun i => decide (j < i) && (ops[i]?).any fun o => o.after.any fun e => Region.binds md e && e.on == j) &&
  last.after.all (fun e => !Region.binds md e || decide (e.on < ops.length))

theorem wp_region_held_last {P : Program} {S : World → Prop} {Q : Exit → Act → World → Prop} {id : Nat} {l : List Oper} {a : Act} {w : World} (last : Oper) (hl : l = l.dropLast ++ [last]) (hm : P.follows .mixedOrders = true)
    (hc : lastOk .any l.dropLast last = true) (h : wpAnyH P .any l.dropLast.toArray (lastQ P last Q) S l.dropLast.length (Array.replicate l.dropLast.length false) a w.drew) : (Code.region id l.toArray true).wp P Q a w := by
  simp only [lastOk, Bool.and_eq_true, List.all_eq_true, List.mem_range] at hc
  obtain ⟨⟨⟨⟨h1, h2⟩, h3⟩, h4⟩, h5⟩ := hc
  have e : l.toArray = l.dropLast.toArray.push last := by
    conv => lhs; rw [hl]
    simp
  rw [e]
  refine wp_region_any hm ?_
  have e2 : (l.dropLast.toArray.push last).size = l.dropLast.length + 1 := by simp
  have e3 : Array.replicate (l.dropLast.toArray.push last).size false = (Array.replicate l.dropLast.length false).push false := by
    rw [e2, Array.replicate_succ]
  rw [e3, e2]
  refine wpAny_last ?_ ?_ ?_ ?_ ?_ _ _ a _ (by simp) ?_ (wpAny_of_held _ _ _ _ h)
  · intro o ho
    have := h1 o (by simpa using ho)
    simpa using this
  · simpa using h2
  · intro i o ho e he hb
    have hlt := (Array.getElem?_eq_some_iff.1 ho).1
    have := h3 i (by simpa using hlt)
    rw [List.getElem?_toArray] at ho
    simp only [ho, Option.all_some, Array.all_eq_true_iff_forall_mem] at this
    have := this e he
    simpa [hb] using this
  · intro j hj
    have := h4 j (by simpa using hj)
    simp only [Bool.or_eq_true] at this
    rcases this with this | this
    · rw [← Array.any_toList, List.any_eq_true] at this
      obtain ⟨e, he, h6⟩ := this
      simp only [Bool.and_eq_true, beq_iff_eq] at h6
      exact .inl ⟨e, by simpa using he, h6.1, h6.2⟩
    · rw [List.any_eq_true] at this
      obtain ⟨i, _, h6⟩ := this
      simp only [Bool.and_eq_true, decide_eq_true_eq] at h6
      obtain ⟨h7, h8⟩ := h6
      cases ho : l.dropLast[i]? with
      | none => simp [ho] at h8
      | some o =>
        simp only [ho, Option.any_some] at h8
        rw [← Array.any_toList, List.any_eq_true] at h8
        obtain ⟨e, he, h9⟩ := h8
        simp only [Bool.and_eq_true, beq_iff_eq] at h9
        exact .inr ⟨i, o, h7, by simpa using ho, e, by simpa using he, h9.1, h9.2⟩
  · intro e he hb
    have := (Array.all_eq_true_iff_forall_mem.1 h5) e he
    simpa [hb] using this
  · intro i o ho hl' e he hb
    exfalso
    have : (Array.replicate l.dropLast.length false).getD i false = false := by simp [Array.getD, Array.getElem_replicate]
    rw [this] at hl'; cases hl'
end Go.Proofs.YtaohcejbjeaemaaGreatDoor

import Derived.Test.YtbnjggklinickaaGreatDoorRCheck
import Derived.Test.YtbnjggklinickaaGreatDoorRStepDie
import Derived.LoopN
namespace Go.Proofs.YtbnjggklinickaaGreatDoorR
open Go Go.RowKit

/-- A run of n steps at most, and what it comes to. -/
def Goes (b : Nat) (R : Ending → World → Prop) : Nat → World → Prop
  | 0, _ => False
  | n + 1, w => Calls Tryz.prog 19 #[.pointer (some ⟨b, 0, none⟩)] w fun e w' =>
      (e = .returned (.tuple #[.bool false, .nilIface]) ∧ w'.cell? ⟨b, 33, none⟩ = some .nilFunc ∧ Goes b R n w') ∨
      (e = .returned (.tuple #[.bool true, .nilIface]) ∧ w'.cell? ⟨b, 33, none⟩ = some .nilFunc ∧ Calls Tryz.prog 20 #[.pointer (some ⟨b, 0, none⟩), .bool true] w' R) ∨
      (∃ t x, e = .returned (.tuple #[.bool true, .iface t x]) ∧ R (.returned (.iface t x)) w')

set_option maxHeartbeats 4000000 in
set_option maxRecDepth 100000 in
theorem execute_any {b : Nat} {R : Ending → World → Prop} (hr : ∀ e w, R e w → ∃ v, e = .returned v) (n : Nat) {w : World} (c6 : w.cell? ⟨b, 6, none⟩ = some (.int .u16 0)) (c33 : w.cell? ⟨b, 33, none⟩ = some .nilFunc) (hg : Goes b R n w) :
    Calls Tryz.prog 11 #[.pointer (some ⟨b, 0, none⟩)] w R := by
  have hq : ∀ wx : World, Sem.run Tryz.prog (binOp BinOp.neq 82 .nilFunc .nilFunc) wx = .ok (.bool false) wx := fun wx => by kernel_rfl
  have HG := Lib.hid hg
  clear hg
  go_enter Tryz.func11, Tryz.ntmps11
  go_wp2_with fail
  refine wp_loop_rounds (n + 1) ?_
  cases n with
  | zero => exact HG.out.elim
  | succ n =>
  rw [rounds_succ]
  go_wp2_with fail
  refine HG.out.mono ?_
  clear HG
  rintro e w1 (⟨rfl, c33', hg⟩ | ⟨rfl, c33', hg⟩ | ⟨t, x, rfl, hg⟩)
  · have HG := Lib.hid hg
    clear hg c6 c33
    go_wp2_with fail
    induction n generalizing w1 with
    | zero => exact HG.out.elim
    | succ n ih =>
    rw [rounds_succ]
    have IH := Lib.hid ih
    clear ih
    go_wp2_with fail
    refine HG.out.mono ?_
    clear HG
    rintro e w2 (⟨rfl, c33'', hg⟩ | ⟨rfl, c33'', hg⟩ | ⟨t, x, rfl, hg⟩)
    · have HG := Lib.hid hg
      clear hg
      go_wp2_with fail
      exact IH.out _ c33'' HG
    · have HG := Lib.hid hg
      clear hg
      go_wp2_with fail
      rw [rounds_succ]
      go_wp2_with fail
      refine HG.out.mono ?_
      intro e' w' h
      obtain ⟨v, rfl⟩ := hr _ _ h
      have HR := Lib.hid h
      clear h HG
      go_wp2_with fail
      exact HR.out
    · have HG := Lib.hid hg
      clear hg
      go_wp2_with fail
      exact HG.out
  · have HG := Lib.hid hg
    clear hg
    go_wp2_with fail
    rw [rounds_succ]
    go_wp2_with fail
    refine HG.out.mono ?_
    intro e' w' h
    obtain ⟨v, rfl⟩ := hr _ _ h
    have HR := Lib.hid h
    clear h HG
    go_wp2_with fail
    exact HR.out
  · have HG := Lib.hid hg
    clear hg
    go_wp2_with fail
    exact HG.out
#print axioms execute_any
end Go.Proofs.YtbnjggklinickaaGreatDoorR

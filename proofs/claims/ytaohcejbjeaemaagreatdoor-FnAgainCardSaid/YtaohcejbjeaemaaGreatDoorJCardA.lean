/-
  laws.FnAgain, THE TIED CARD: for every stack of byte strings and every list of choices the law returns true and leaves its arguments as they were: turns of the stack that undo each other leave it as it was.
  Conditions: the row's own: errors.errorType and bytes.ErrTooLarge read as the program's text lays them, which the card ties to that text (the walk reads neither).
-/
import Derived.Test.YtaohcejbjeaemaaGreatDoorJRowA
import Derived.Test.YtaohcejbjeaemaaGreatDoorTie
import Derived.Test.YtaohcejbjeaemaaGreatDoorCards
import Derived.SevenTiedAt
namespace Go.Proofs.YtaohcejbjeaemaaGreatDoor
open Go
theorem wants_rows : Tryz.pinned.checked.prog.wantsStandIn 22 = false := by kernel_rfl
theorem wants_ints : Tryz.pinned.checked.prog.wantsStandIn 23 = false := by kernel_rfl

theorem card_holds : Rows.FnAgainCardSaid :=
  Claim7.holds_tied_plain_at .later [] _ _ _ _
    row_holds (fun _ h => by cases h) (by kernel_rfl) (fun _ h => by cases h) fnAgain_row_tie rfl ⟨rfl, rfl⟩ (by kernel_rfl) rfl
    (fun f fn hf hfn => by
      obtain rfl : f = 3 := (Option.some.inj (named_law.symm.trans hf)).symm
      obtain rfl : fn = Tryz.f3 := (Option.some.inj (Tryz.func3.symm.trans hfn)).symm
      exact ⟨by kernel_rfl, fun j t ht => by
        rw [Tryz.params3] at ht
        have hm := Array.mem_of_getElem? ht
        simp only [List.mem_toArray, List.mem_cons, List.not_mem_nil, or_false] at hm
        rcases hm with rfl | rfl
        · exact wants_rows
        · exact wants_ints⟩)
    (by kernel_rfl)
#print axioms card_holds
end Go.Proofs.YtaohcejbjeaemaaGreatDoor
